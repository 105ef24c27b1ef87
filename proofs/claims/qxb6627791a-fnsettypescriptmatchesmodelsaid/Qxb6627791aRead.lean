/-
  The functions that only read a column.
-/
import Derived.Test.Qxb6627791aOwn
import Derived.Laws.BitsLemmas
namespace Go.Proofs.Qxb6627791a
open Go.RowKit
set_option linter.unusedVariables false

theorem and16 (n : Int) : bits .and .i64 n 65535 = n % 65536 := by
  have h127 : (BitVec.ofInt 64 65535).toNat = 2 ^ 16 - 1 := by decide
  have key : (BitVec.ofInt 64 n &&& BitVec.ofInt 64 65535).toNat = (n % ((2 ^ 64 : Nat) : Int)).toNat % 2 ^ 16 := by
    rw [BitVec.toNat_and, BitVec.toNat_ofInt, h127, Nat.and_two_pow_sub_one_eq_mod]
  show IntKind.i64.wrap ((BitVec.ofInt 64 n &&& BitVec.ofInt 64 65535).toNat : Nat) = n % 65536
  rw [key, IntKind.wrap_i64]
  omega

set_option maxHeartbeats 1000000 in
theorem len32 {B : Nat} {who : Nat → Nat × Nat} {c : Nat} (g off : Nat) (v : Value) (xs : List Value) (w : World) (hc : w.cell? ⟨g, off, none⟩ = some v) (h : Col B w who c 49 21 v xs) (hn : xs.length ≤ 2000000) :
    Calls Try.prog 21 #[.pointer (some ⟨g, off, none⟩)] w fun e w' => e = .returned (.int .i64 (xs.length : Int)) ∧ w' = w := by
  by_cases h0 : xs.length = 0
  · obtain ⟨us, h1, h2, _⟩ := h
    have hu : us.length = 0 := by omega
    obtain ⟨a, cap, rfl, _⟩ := h1.len0
    rw [hu] at hc
    clear h1 h2
    go_enter Try.func21, Try.ntmps21
    go_wp2
    go_ret
    exact ⟨by rw [h0]; rfl, rfl⟩
  · obtain ⟨go, co, last, gi, n, ci, rfl, hcl, hsum, hn0, hn1⟩ := h.last (by omega)
    have HS : Hid (last * 65536 + n = xs.length) := hsum
    have hl : last < 100 := by omega
    clear h h0 hsum
    go_enter Try.func21, Try.ntmps21
    go_wp2
    go_ret
    exact ⟨by rw [← HS.out]; simp, rfl⟩

set_option maxHeartbeats 1000000 in
theorem len64 {B : Nat} {who : Nat → Nat × Nat} {c : Nat} (g off : Nat) (v : Value) (xs : List Value) (w : World) (hc : w.cell? ⟨g, off, none⟩ = some v) (h : Col B w who c 47 28 v xs) (hn : xs.length ≤ 2000000) :
    Calls Try.prog 22 #[.pointer (some ⟨g, off, none⟩)] w fun e w' => e = .returned (.int .i64 (xs.length : Int)) ∧ w' = w := by
  by_cases h0 : xs.length = 0
  · obtain ⟨us, h1, h2, _⟩ := h
    have hu : us.length = 0 := by omega
    obtain ⟨a, cap, rfl, _⟩ := h1.len0
    rw [hu] at hc
    clear h1 h2
    go_enter Try.func22, Try.ntmps22
    go_wp2
    go_ret
    exact ⟨by rw [h0]; rfl, rfl⟩
  · obtain ⟨go, co, last, gi, n, ci, rfl, hcl, hsum, hn0, hn1⟩ := h.last (by omega)
    have HS : Hid (last * 65536 + n = xs.length) := hsum
    have hl : last < 100 := by omega
    clear h h0 hsum
    go_enter Try.func22, Try.ntmps22
    go_wp2
    go_ret
    exact ⟨by rw [← HS.out]; simp, rfl⟩


set_option maxHeartbeats 1000000 in
/-- ZZtypeAt. -/
theorem typeAt_any {B : Nat} {who : Nat → Nat × Nat} {c : Nat} (g i : Nat) (v x : Value) (xs : List Value) (w : World) (hc : w.cell? ⟨g, 3, none⟩ = some v) (h : Col B w who c 49 21 v xs) (hn : xs.length ≤ 2000000) (hi : xs[i]? = some x) :
    Calls Try.prog 16 #[.pointer (some ⟨g, 0, none⟩), .int .i64 (i : Int)] w fun e w' => e = .returned x ∧ w' = w := by
  have hil := (List.getElem?_eq_some_iff.1 hi).1
  obtain ⟨go, m, co, gi, n, ci, rfl, h1, h2, h3, h4, h5, h6, h7⟩ := h.place i hil
  rw [hi] at h6
  have hm1 : ((i / 65536 : Nat) : Int) < (m : Int) := by omega
  have hand : bits BinOp.and IntKind.i64 (i : Int) 65535 = ((i % 65536 : Nat) : Int) := by rw [and16]; omega
  clear h hi h7
  go_enter Try.func16, Try.ntmps16
  go_wp2
  go_ret
  exact ⟨rfl, rfl⟩

/-- Where the i-th value lies, and what a store there does. -/
theorem Col.place_set {B : Nat} {w : World} {who : Nat → Nat × Nat} {c : Nat} {tS e : TypeId} {v : Value} {xs : List Value} (h : Col B w who c tS e v xs) (i : Nat) (hi : i < xs.length) :
    ∃ go m co gi n ci, v = .slice (some ⟨go, 0, none⟩) m co ∧ i / 65536 < m ∧ w.cell? ⟨go, i / 65536, none⟩ = some (.slice (some ⟨gi, 0, none⟩) n ci) ∧ i % 65536 < n ∧ n ≤ 65536 ∧ m ≤ 65536 + xs.length ∧ w.cell? ⟨gi, i % 65536, none⟩ = some xs[i] ∧ w.frozen? ⟨gi, i % 65536, none⟩ = false ∧
      ∀ y, Col B (w.setCell ⟨gi, i % 65536, none⟩ y) who c tS e v (xs.set i y) ∧ Turn (fun x => x = c) who w (w.setCell ⟨gi, i % 65536, none⟩ y) := by
  obtain ⟨us, h1, h2, h3⟩ := h
  have hl : i / 65536 < us.length := by omega
  obtain ⟨go, co, rfl, _⟩ := h1.found (by omega)
  have e2 : us[i / 65536]? = some us[i / 65536] := List.getElem?_eq_getElem hl
  have h4 := h3 _ _ e2
  have e3 := chunk_len (i / 65536) xs
  obtain ⟨gi, ci, e4, _, _, _, hwho⟩ := h4.found (by omega)
  rw [e4] at h4
  refine ⟨go, us.length, co, gi, (chunk (i / 65536) xs).length, ci, rfl, hl, by rw [h1.cell rfl _ hl, e2, e4], by omega, by omega, by omega, ?_, h4.frozen rfl _, fun y => ?_⟩
  · rw [h4.cell rfl _ (by omega), chunk_get _ _ _ (by omega), ← List.getElem?_eq_getElem hi]
    congr 1
    omega
  · obtain ⟨k1, k2⟩ := h4.1.stored (i % 65536) y
    have ei : i = 65536 * (i / 65536) + i % 65536 := by omega
    refine ⟨⟨us, h1.kept k2 (Same.refl _ _) (fun k hk => ?_), by rw [List.length_set]; exact h2, fun j u hu => ?_⟩, Turn.grown k2 (fun k hk => ?_)⟩
    · cases hk
      rw [hwho]; intro e; cases e
    · conv => rhs; rw [ei]
      rw [chunk_set _ _ _ _ _ (by omega)]
      by_cases hj : j = i / 65536
      · subst hj
        rw [if_pos rfl]
        rw [e2] at hu
        cases hu
        rw [e4]
        exact ⟨by rw [List.length_set]; exact k1, fun g hg => by simp [Value.ownBlock] at hg; rw [← hg]; exact hwho⟩
      · rw [if_neg hj]
        refine (h3 j u hu).kept k2 (Same.refl _ _) (fun k hk => ?_)
        cases hk
        rw [hwho]; intro e; injection e; omega
    · cases hk
      rw [hwho]

set_option maxHeartbeats 1000000 in
/-- column.set. -/
theorem set_any {B : Nat} {who : Nat → Nat × Nat} {c : Nat} (g off i : Nat) (v y : Value) (xs : List Value) (w : World) (hc : w.cell? ⟨g, off, none⟩ = some v) (h : Col B w who c 49 21 v xs) (hn : xs.length ≤ 2000000) (hi : i < xs.length) (k : Int) :
    Calls Try.prog 20 #[.pointer (some ⟨g, off, none⟩), .int .i64 (i : Int), .int .i32 k] w fun e w' => e = .returned (.tuple #[]) ∧ Col B w' who c 49 21 v (xs.set i (.int .i32 k)) ∧ Turn (fun x => x = c) who w w' := by
  obtain ⟨go, m, co, gi, n, ci, rfl, h1, h2, h3, h4, h5, h6, h7, h8⟩ := h.place_set i hi
  have hm1 : ((i / 65536 : Nat) : Int) < (m : Int) := by omega
  have hand : bits BinOp.and IntKind.i64 (i : Int) 65535 = ((i % 65536 : Nat) : Int) := by rw [and16]; omega
  have H8 : Hid _ := h8 (.int .i32 k)
  clear h h8
  go_enter Try.func20, Try.ntmps20
  go_wp2
  go_end0
  exact ⟨rfl, H8.out⟩

end Go.Proofs.Qxb6627791a
