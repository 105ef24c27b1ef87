/-
  The script: plain states, and the two builders side by side.
-/
import Derived.Test.Qxb6627791aDist
namespace Go.Proofs.Qxb6627791a
open Go.RowKit
open Go.Maps
set_option linter.unusedVariables false

/-- A row of bytes. -/
def RowA (w : World) (ao : Option Addr) (n : Nat) (Z : List Nat) : Prop :=
  Z.length = n ∧ (∀ z ∈ Z, z ≤ 255) ∧ (0 < n → ∃ b off, ao = some ⟨b, off, none⟩ ∧ ∀ j, j < n → w.cell? ⟨b, off + j, none⟩ = some (.int .u8 ((Z.getD j 0 : Nat) : Int)))
def StabA (B : Nat) (w : World) (ao : Option Addr) (n : Nat) (Z : List Nat) : Prop := ∀ w', Below B w w' → RowA w' ao n Z

theorem getZ_le {Z : List Nat} (h : ∀ z ∈ Z, z ≤ 255) (k : Nat) : Z.getD k 0 ≤ 255 := by
  by_cases hk : k < Z.length
  · rw [List.getD_eq_getElem?_getD, List.getElem?_eq_getElem hk]
    exact h _ (List.getElem_mem hk)
  · rw [List.getD_eq_getElem?_getD, List.getElem?_eq_none (by omega)]
    simp

/-- How many objects after k steps. -/
def NN (Z : List Nat) : Nat → Nat
  | 0 => 0
  | k + 1 => NN Z k + Z.getD k 0
theorem NN_le (Z : List Nat) (h : ∀ z ∈ Z, z ≤ 255) : ∀ k, NN Z k ≤ 255 * k
  | 0 => Nat.le_refl _
  | k + 1 => by
    have := NN_le Z h k
    have := getZ_le h k
    simp only [NN]; omega
theorem NN_mono (Z : List Nat) : ∀ k d, NN Z k ≤ NN Z (k + d)
  | k, 0 => Nat.le_refl _
  | k, d + 1 => by
    have := NN_mono Z k d
    show NN Z k ≤ NN Z (k + d) + Z.getD (k + d) 0
    omega
theorem NN_pos (Z : List Nat) (h0 : Z.getD 0 0 ≠ 0) (k : Nat) (hk : 0 < k) : 0 < NN Z k := by
  have h1 := NN_mono Z 1 (k - 1)
  rw [show 1 + (k - 1) = k by omega] at h1
  have : NN Z 1 = Z.getD 0 0 := by simp [NN]
  omega

/-- The table after k steps. -/
def TB (L : List ByteArray) : Nat → List ByteArray
  | 0 => []
  | k + 1 => tab (TB L k) (L.getD k ByteArray.empty)
theorem TB_DT (L : List ByteArray) : ∀ k, k + 1 ≤ L.length → TB L (k + 1) = DT L (k + 1)
  | 0, h => by rw [DT_succ L 0 h, DT_zero]; rfl
  | k + 1, h => by
    have ih := TB_DT L k (by omega)
    rw [DT_succ L (k + 1) h, ← ih]
    show tab (TB L (k + 1)) _ = _
    have hne : TB L (k + 1) ≠ [] := tab_ne _ _
    rw [tab, base_cons hne]
theorem TB_len (L : List ByteArray) (k : Nat) (h : k ≤ L.length) : (TB L k).length ≤ k + 1 := by
  cases k with
  | zero => simp [TB]
  | succ k => rw [TB_DT L k h]; exact (DT_len L (k + 1)).1
theorem TB_sizes (L : List ByteArray) (hs : ∀ s ∈ L, s.size ≤ maxLen) (k : Nat) (h : k ≤ L.length) : ∀ s ∈ TB L k, s.size ≤ maxLen := by
  cases k with
  | zero => intro s hs; simp [TB] at hs
  | succ k => rw [TB_DT L k h]; exact DT_sizes L hs (k + 1)

/-- The numbers after k steps. -/
def TS (Z : List Nat) (L : List ByteArray) : Nat → List Nat
  | 0 => []
  | k + 1 => setTs (NN Z (k + 1)) (TS Z L k) (idx (L.getD k ByteArray.empty) (TB L (k + 1)))
theorem TS_le (Z : List Nat) (L : List ByteArray) : ∀ k, (TS Z L k).length ≤ NN Z k
  | 0 => Nat.le_refl _
  | k + 1 => by
    have ih := TS_le Z L k
    have := NN_mono Z k 1
    show (setTs _ _ _).length ≤ _
    rw [setTs_len _ _ _ (by omega)]
    exact Nat.le_refl _
theorem TS_len (Z : List Nat) (L : List ByteArray) (k : Nat) : (TS Z L (k + 1)).length = NN Z (k + 1) := by
  have ih := TS_le Z L k
  have := NN_mono Z k 1
  show (setTs _ _ _).length = _
  exact setTs_len _ _ _ (by omega)
/-- The last object bears the last name. -/
theorem TS_last (Z : List Nat) (L : List ByteArray) (k : Nat) (h : 0 < NN Z (k + 1)) : ∃ t, (TS Z L (k + 1))[NN Z (k + 1) - 1]? = some t ∧ (TB L (k + 1))[t]? = some (L.getD k ByteArray.empty) := by
  have ih := TS_le Z L k
  have := NN_mono Z k 1
  refine ⟨idx (L.getD k ByteArray.empty) (TB L (k + 1)), ?_, idx_spec (addName_mem _ _)⟩
  show (setTs _ _ _)[_]? = _
  have hl : NN Z (k + 1) - 1 < (pad (NN Z (k + 1)) (TS Z L k)).length := by rw [pad_len _ _ (by omega)]; omega
  rw [setTs, List.getElem?_set, if_pos rfl, if_pos hl]

/-- Nobody's. -/
def z0 : Nat → Nat × Nat := fun _ => (0, 0)
def CC : Nat → Prop := fun x => 10 ≤ x ∧ x ≤ 24

/-- The builders at ga, gd. -/
def Two (w : World) (ga gd : Nat) (wr : World) (who : Nat → Nat × Nat) (na nd : Nat) (tsa tsd : List Nat) (tba tbd : List ByteArray) : Prop :=
  Same w.heap.size z0 who ∧ Turn CC z0 w wr ∧ Bld w.heap.size wr who 10 ga na tsa tba ∧ Bld w.heap.size wr who 20 gd nd tsd tbd

theorem Two.below {w : World} {ga gd : Nat} {wr : World} {who : Nat → Nat × Nat} {na nd : Nat} {tsa tsd : List Nat} {tba tbd : List ByteArray} (h : Two w ga gd wr who na nd tsa tsd tba tbd) : Below w.heap.size w wr :=
  h.2.1.below (Nat.le_refl _) (fun _ _ => rfl) (by show ¬ (10 ≤ 0 ∧ 0 ≤ 24); omega)

theorem Two.stepA {w : World} {ga gd : Nat} {wr w' : World} {who who' : Nat → Nat × Nat} {na nd na' : Nat} {tsa tsd tsa' : List Nat} {tba tbd tba' : List ByteArray} (h : Two w ga gd wr who na nd tsa tsd tba tbd) (s : Same wr.heap.size who who') (t : Turn (CH 10) who wr w') (b : Bld w.heap.size w' who' 10 ga na' tsa' tba') : Two w ga gd w' who' na' nd tsa' tsd tba' tbd :=
  ⟨h.1.trans s h.2.1.size, h.2.1.trans (t.mono (fun x hx => ⟨hx.1, by have := hx.2; omega⟩)) h.1, b, h.2.2.2.turn t s (fun x hx hc => by have h1 := hx.1; have h2 := hc.2; omega)⟩

theorem Two.stepD {w : World} {ga gd : Nat} {wr w' : World} {who who' : Nat → Nat × Nat} {na nd nd' : Nat} {tsa tsd tsd' : List Nat} {tba tbd tbd' : List ByteArray} (h : Two w ga gd wr who na nd tsa tsd tba tbd) (s : Same wr.heap.size who who') (t : Turn (CH 20) who wr w') (b : Bld w.heap.size w' who' 20 gd nd' tsd' tbd') : Two w ga gd w' who' na nd' tsa tsd' tba tbd' :=
  ⟨h.1.trans s h.2.1.size, h.2.1.trans (t.mono (fun x hx => ⟨by have := hx.1; omega, hx.2⟩)) h.1, h.2.2.1.turn t s (fun x hx hc => by have h1 := hx.2; have h2 := hc.1; omega), b⟩

theorem pushA {w : World} {ga gd : Nat} {wr : World} {who : Nat → Nat × Nat} {na nd : Nat} {tsa tsd : List Nat} {tba tbd : List ByteArray} (h : Hid (Two w ga gd wr who na nd tsa tsd tba tbd)) (hn : na ≤ 1500000) (k : Int) :
    Calls Try.prog 7 #[.pointer (some ⟨ga, 0, none⟩), .int .u64 k] wr fun e w' => e = .returned (.tuple #[]) ∧ ∃ who', Hid (Two w ga gd w' who' (na + 1) nd tsa tsd tba tbd) := by
  refine (push_any wr h.out.2.2.1 (by omega) h.out.2.1.size k).mono ?_
  rintro e w' ⟨rfl, who', s, t, b⟩
  exact ⟨rfl, who', h.out.stepA s t b⟩

theorem pushD {w : World} {ga gd : Nat} {wr : World} {who : Nat → Nat × Nat} {na nd : Nat} {tsa tsd : List Nat} {tba tbd : List ByteArray} (h : Hid (Two w ga gd wr who na nd tsa tsd tba tbd)) (hn : nd ≤ 1500000) (k : Int) :
    Calls Try.prog 7 #[.pointer (some ⟨gd, 0, none⟩), .int .u64 k] wr fun e w' => e = .returned (.tuple #[]) ∧ ∃ who', Hid (Two w ga gd w' who' na (nd + 1) tsa tsd tba tbd) := by
  refine (push_any wr h.out.2.2.2 (by omega) h.out.2.1.size k).mono ?_
  rintro e w' ⟨rfl, who', s, t, b⟩
  exact ⟨rfl, who', h.out.stepD s t b⟩

theorem setA {w : World} {ga gd : Nat} {wr : World} {who : Nat → Nat × Nat} {na nd : Nat} {tsa tsd : List Nat} {tba tbd : List ByteArray} (h : Hid (Two w ga gd wr who na nd tsa tsd tba tbd)) (hn : na ≤ 1500000) (hn0 : 0 < na) (ht : tsa.length ≤ na) (htb : tba.length ≤ 5000) (s : ByteArray) (hs : s.size ≤ maxLen) :
    Calls Try.prog 8 #[.pointer (some ⟨ga, 0, none⟩), .string s] wr fun e w' => e = .returned (.tuple #[]) ∧ ∃ who', Hid (Two w ga gd w' who' na nd (setTs na tsa (idx s (tab tba s))) tsd (tab tba s) tbd) := by
  refine (setType_any wr h.out.2.2.1 hn hn0 ht htb h.out.2.1.size s hs).mono ?_
  rintro e w' ⟨rfl, who', s, t, b⟩
  exact ⟨rfl, who', h.out.stepA s t b⟩

theorem setD {w : World} {ga gd : Nat} {wr : World} {who : Nat → Nat × Nat} {na nd : Nat} {tsa tsd : List Nat} {tba tbd : List ByteArray} (h : Hid (Two w ga gd wr who na nd tsa tsd tba tbd)) (hn : nd ≤ 1500000) (hn0 : 0 < nd) (ht : tsd.length ≤ nd) (htb : tbd.length ≤ 5000) (s : ByteArray) (hs : s.size ≤ maxLen) :
    Calls Try.prog 8 #[.pointer (some ⟨gd, 0, none⟩), .string s] wr fun e w' => e = .returned (.tuple #[]) ∧ ∃ who', Hid (Two w ga gd w' who' na nd tsa (setTs nd tsd (idx s (tab tbd s))) tba (tab tbd s)) := by
  refine (setType_any wr h.out.2.2.2 hn hn0 ht htb h.out.2.1.size s hs).mono ?_
  rintro e w' ⟨rfl, who', s, t, b⟩
  exact ⟨rfl, who', h.out.stepD s t b⟩

/-- zzDistinct, whatever the number of names. -/
theorem distinct_any {B l : Nat} {who : Nat → Nat × Nat} (ao : Option Addr) (n cap : Nat) (L : List ByteArray) (w : World) (hn : n ≤ 4096) (hrow : StabS B w ao n L) (hB : B ≤ w.heap.size) (hw0 : ∀ k, k < B → who k = (0, 0)) (hl : l ≠ 0) :
    Calls Try.prog 9 #[.slice ao n cap] w fun e w' => ∃ a' c', e = .returned (.slice a' (TB L n).length c') ∧ ∃ who', Same w.heap.size who who' ∧ Turn (fun x => x = l) who w w' ∧ Own B w' who' (l, 0) 9 (.slice a' (TB L n).length c') (cellsS (TB L n)) := by
  by_cases h0 : n = 0
  · subst h0
    clear hrow
    go_enter Try.func9, Try.ntmps9
    go_wp2
    go_ret
    exact ⟨none, 0, rfl, who, Same.refl _ _, Turn.refl _ _ _, Own.nil _ _ _ _ _⟩
  · have hLn := (hrow w (Below.refl _ _)).1
    obtain ⟨k, rfl⟩ : ∃ k, n = k + 1 := ⟨n - 1, by omega⟩
    rw [TB_DT L k (by omega)]
    exact dist_any ao (k + 1) cap L w hn (by omega) hrow hB hw0 hl

end Go.Proofs.Qxb6627791a
