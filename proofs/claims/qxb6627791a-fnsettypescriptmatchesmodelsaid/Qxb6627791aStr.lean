/-
  Rows of strings: the bound on total length, comparing, the table of distinct names.
-/
import Derived.Test.Qxb6627791aAsk
namespace Go.Proofs.Qxb6627791a
open Go.RowKit
open Go.Maps
set_option linter.unusedVariables false

/-- A row of strings. -/
def RowS (w : World) (ao : Option Addr) (n : Nat) (L : List ByteArray) : Prop :=
  L.length = n ∧ (∀ s ∈ L, s.size ≤ maxLen) ∧ (0 < n → ∃ b off, ao = some ⟨b, off, none⟩ ∧ ∀ j, j < n → w.cell? ⟨b, off + j, none⟩ = some (.string (L.getD j ByteArray.empty)))

theorem getS_le {L : List ByteArray} (h : ∀ s ∈ L, s.size ≤ maxLen) (k : Nat) : (L.getD k ByteArray.empty).size ≤ maxLen := by
  by_cases hk : k < L.length
  · rw [List.getD_eq_getElem?_getD, List.getElem?_eq_getElem hk]
    exact h _ (List.getElem_mem hk)
  · rw [List.getD_eq_getElem?_getD, List.getElem?_eq_none (by omega)]
    decide

theorem getS_some {L : List ByteArray} {k : Nat} (h : k < L.length) : L[k]? = some (L.getD k ByteArray.empty) := by
  rw [List.getD_eq_getElem?_getD, List.getElem?_eq_getElem h]; rfl

theorem takeS_snoc (L : List ByteArray) (k : Nat) (h : k < L.length) : L.take (k + 1) = L.take k ++ [L.getD k ByteArray.empty] := by
  rw [List.take_add_one, getS_some h]; rfl

theorem Own.rowS {B : Nat} {w : World} {who : Nat → Nat × Nat} {l : Nat × Nat} {a : Option Addr} {n cap : Nat} {tb : List ByteArray} (h : Own B w who l 9 (.slice a n cap) (cellsS tb)) (hn : n = tb.length) (hs : ∀ s ∈ tb, s.size ≤ maxLen) : RowS w a n tb := by
  refine ⟨hn.symm, hs, fun h0 => ?_⟩
  obtain ⟨g, cap', e, _⟩ := h.found (by rw [cellsS_len]; omega)
  rw [cellsS_len] at e
  injection e with e1 e2 e3
  subst e1 e2 e3
  refine ⟨g, 0, rfl, fun j hj => ?_⟩
  rw [Nat.zero_add, h.cell (by rw [cellsS_len]) j (by omega), cellsS, List.getElem?_map, getS_some (by omega)]
  rfl

theorem RowS.drewN {w : World} {ao : Option Addr} {n : Nat} {L : List ByteArray} (h : RowS w ao n L) (q : Nat) : RowS (w.drewN q) ao n L := h

/-- A Boolean, and what its truth tells. -/
def Ans (e : Ending) (P : Prop) : Prop := e = .returned (.bool false) ∨ (e = .returned (.bool true) ∧ P)

set_option maxHeartbeats 1000000 in
theorem bytes17_any (a0 : Option Addr) (n0 c0 : Nat) (a1 : Option Addr) (n1 c1 : Nat) (L : List ByteArray) (w : World) (h0 : n0 ≤ maxLen) (h1 : n1 ≤ maxLen) (hr : RowS w a1 n1 L) :
    Calls Try.prog 17 #[.slice a0 n0 c0, .slice a1 n1 c1] w fun e w' => Ans e (∀ s ∈ L, s.size ≤ 1048576) ∧ w' = w := by
  have HR : Hid (RowS w a1 n1 L) := hr
  unfold maxLen at h0 h1
  clear hr
  by_cases g0 : 1048576 < n0
  · go_enter Try.func17, Try.ntmps17
    go_wp2
    go_ret
    exact ⟨Or.inl rfl, rfl⟩
  by_cases g1 : 1048576 < n1
  · go_enter Try.func17, Try.ntmps17
    go_wp2
    go_ret
    exact ⟨Or.inl rfl, rfl⟩
  by_cases g2 : 1048576 < n0 + n1
  · go_enter Try.func17, Try.ntmps17
    go_wp2
    go_ret
    exact ⟨Or.inl rfl, rfl⟩
  go_enter Try.func17, Try.ntmps17
  go_wp2_with fail
  go_loop [5, 6] (fun z i => ∃ (k m : Nat), k ≤ n1 ∧ i = .int .i64 k ∧ z = .int .i64 m ∧ m ≤ 1048576 ∧ Hid (∀ i, i < k → (L.getD i ByteArray.empty).size ≤ 1048576)) (fun _ i => n1 - (intOf i).toNat)
  case atStart => exact ⟨0, n0 + n1, Nat.zero_le _, rfl, by go_num, by omega, fun i hi => absurd hi (Nat.not_lt_zero _)⟩
  case round =>
    obtain ⟨k, m, hk, rfl, rfl, hm, HS⟩ := hrel
    by_cases hlt : k < n1
    · obtain ⟨b, off, rfl, hc⟩ := HR.out.2.2 (by omega)
      have hck := hc k hlt
      obtain ⟨s, hs⟩ : ∃ s, s = L.getD k ByteArray.empty := ⟨_, rfl⟩
      have hsl : s.size ≤ maxLen := by rw [hs]; exact getS_le HR.out.2.1 k
      unfold maxLen at hsl
      rw [← hs] at hck
      have hlt' : (k : Int) < (n1 : Int) := by omega
      by_cases q1 : 1048576 < s.size
      · clear hc hs HS
        go_wp2
        go_ret
        exact ⟨Or.inl rfl, rfl⟩
      have HS2 : Hid (∀ i, i < k + 1 → (L.getD i ByteArray.empty).size ≤ 1048576) := fun i hi => by
        by_cases e : i = k
        · subst e; rw [← hs]; omega
        · exact HS.out i (by omega)
      clear hc hs HS
      by_cases q2 : 1048576 < m + s.size
      · go_wp2
        go_ret
        exact ⟨Or.inl rfl, rfl⟩
      go_wp2
      go_round
      case rel => exact ⟨k + 1, m + s.size, by omega, by go_num, by go_num, by omega, HS2⟩
      case measure => simp [intOf]; omega
    · have hge : ¬ (k : Int) < (n1 : Int) := by omega
      obtain rfl : k = n1 := by omega
      have HALL : Hid (∀ s ∈ L, s.size ≤ 1048576) := fun s hs => by
        obtain ⟨i, hi, e⟩ := List.getElem_of_mem hs
        have := HS.out i (by have := HR.out.1; omega)
        rwa [List.getD_eq_getElem?_getD, List.getElem?_eq_getElem hi, e] at this
      clear HS
      go_wp2
      go_ret
      exact ⟨Or.inr ⟨rfl, HALL.out⟩, rfl⟩

set_option maxHeartbeats 1000000 in
theorem bytes5_any (a0 : Option Addr) (n0 c0 : Nat) (a1 : Option Addr) (n1 c1 : Nat) (L : List ByteArray) (w : World) (h0 : n0 ≤ maxLen) (h1 : n1 ≤ maxLen) (hr : RowS w a1 n1 L) :
    Calls Try.prog 5 #[.slice a0 n0 c0, .slice a1 n1 c1] w fun e w' => Ans e (∀ s ∈ L, s.size ≤ 1048576) ∧ w' = w := by
  have HR : Hid (RowS w a1 n1 L) := hr
  unfold maxLen at h0 h1
  clear hr
  by_cases g0 : 1048576 < n0
  · go_enter Try.func5, Try.ntmps5
    go_wp2
    go_ret
    exact ⟨Or.inl rfl, rfl⟩
  by_cases g1 : 1048576 < n1
  · go_enter Try.func5, Try.ntmps5
    go_wp2
    go_ret
    exact ⟨Or.inl rfl, rfl⟩
  by_cases g2 : 1048576 < n0 + n1
  · go_enter Try.func5, Try.ntmps5
    go_wp2
    go_ret
    exact ⟨Or.inl rfl, rfl⟩
  go_enter Try.func5, Try.ntmps5
  go_wp2_with fail
  go_loop [5, 6] (fun z i => ∃ (k m : Nat), k ≤ n1 ∧ i = .int .i64 k ∧ z = .int .i64 m ∧ m ≤ 1048576 ∧ Hid (∀ i, i < k → (L.getD i ByteArray.empty).size ≤ 1048576)) (fun _ i => n1 - (intOf i).toNat)
  case atStart => exact ⟨0, n0 + n1, Nat.zero_le _, rfl, by go_num, by omega, fun i hi => absurd hi (Nat.not_lt_zero _)⟩
  case round =>
    obtain ⟨k, m, hk, rfl, rfl, hm, HS⟩ := hrel
    by_cases hlt : k < n1
    · obtain ⟨b, off, rfl, hc⟩ := HR.out.2.2 (by omega)
      have hck := hc k hlt
      obtain ⟨s, hs⟩ : ∃ s, s = L.getD k ByteArray.empty := ⟨_, rfl⟩
      have hsl : s.size ≤ maxLen := by rw [hs]; exact getS_le HR.out.2.1 k
      unfold maxLen at hsl
      rw [← hs] at hck
      have hlt' : (k : Int) < (n1 : Int) := by omega
      by_cases q1 : 1048576 < s.size
      · clear hc hs HS
        go_wp2
        go_ret
        exact ⟨Or.inl rfl, rfl⟩
      have HS2 : Hid (∀ i, i < k + 1 → (L.getD i ByteArray.empty).size ≤ 1048576) := fun i hi => by
        by_cases e : i = k
        · subst e; rw [← hs]; omega
        · exact HS.out i (by omega)
      clear hc hs HS
      by_cases q2 : 1048576 < m + s.size
      · go_wp2
        go_ret
        exact ⟨Or.inl rfl, rfl⟩
      go_wp2
      go_round
      case rel => exact ⟨k + 1, m + s.size, by omega, by go_num, by go_num, by omega, HS2⟩
      case measure => simp [intOf]; omega
    · have hge : ¬ (k : Int) < (n1 : Int) := by omega
      obtain rfl : k = n1 := by omega
      have HALL : Hid (∀ s ∈ L, s.size ≤ 1048576) := fun s hs => by
        obtain ⟨i, hi, e⟩ := List.getElem_of_mem hs
        have := HS.out i (by have := HR.out.1; omega)
        rwa [List.getD_eq_getElem?_getD, List.getElem?_eq_getElem hi, e] at this
      clear HS
      go_wp2
      go_ret
      exact ⟨Or.inr ⟨rfl, HALL.out⟩, rfl⟩

set_option maxHeartbeats 1000000 in
/-- zzSameStrings on two rows that read the same. -/
theorem same_any (a0 b0 : Option Addr) (n ca cb : Nat) (L : List ByteArray) (w : World) (hn : n ≤ 1000000) (hA : RowS w a0 n L) (hB : RowS w b0 n L) :
    Calls Try.prog 11 #[.slice a0 n ca, .slice b0 n cb] w fun e w' => e = .returned (.bool true) ∧ ∃ q, w' = w.drewN q := by
  have HA : Hid (RowS w a0 n L) := hA
  have HB : Hid (RowS w b0 n L) := hB
  clear hA hB
  go_enter Try.func11, Try.ntmps11
  go_wp2_with fail
  go_loopw [5] (fun i wr => ∃ (k q : Nat), k ≤ n ∧ i = .int .i64 k ∧ wr = w.drewN q) (fun i _ => n - (intOf i).toNat)
  case atStart => exact ⟨0, 0, Nat.zero_le _, rfl, rfl⟩
  case round =>
    obtain ⟨k, q, hk, rfl, rfl⟩ := hrel
    by_cases hlt : k < n
    · obtain ⟨b1, o1, rfl, c1⟩ := HA.out.2.2 (by omega)
      obtain ⟨b2, o2, rfl, c2⟩ := HB.out.2.2 (by omega)
      obtain ⟨s, hs⟩ : ∃ s, s = L.getD k ByteArray.empty := ⟨_, rfl⟩
      have d1 : w.cell? ⟨b1, o1 + k, none⟩ = some (.string s) := by rw [hs]; exact c1 k hlt
      have d2 : w.cell? ⟨b2, o2 + k, none⟩ = some (.string s) := by rw [hs]; exact c2 k hlt
      have hlt' : (k : Int) < (n : Int) := by omega
      clear hs c1 c2
      go_wp2_with fail
      go_quiet (fail)
      go_wp2
      go_roundw
      case rel => exact ⟨k + 1, _, by omega, by go_num, rfl⟩
      case measure => simp [intOf]; omega
    · have hge : ¬ (k : Int) < (n : Int) := by omega
      go_wp2
      go_ret
      exact ⟨rfl, q, rfl⟩

end Go.Proofs.Qxb6627791a
