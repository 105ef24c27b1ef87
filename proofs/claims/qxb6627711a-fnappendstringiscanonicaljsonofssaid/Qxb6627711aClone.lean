/-
  zzCloneB1: a copy in new memory.
-/
import Derived.Test.Qxb6627711aApp
import Derived.Lib.SliceRun
namespace Go.Proofs.Qxb6627711a
open Go.RowKit Pl
set_option linter.unusedVariables false

/-- The slice of n bytes at ao reads as zs in w. -/
def Row (w : World) (ao : Option Addr) (n : Nat) (L : List Int) : Prop :=
  L.length = n ∧ (ao = none → n = 0) ∧ (0 < n → ∃ b off, ao = some ⟨b, off, none⟩ ∧ ∀ j, j < n → w.cell? ⟨b, off + j, none⟩ = some (.int .u8 (L.getD j 0)))

theorem Row.below {w w' : World} {ao : Option Addr} {n : Nat} {L : List Int} (h : Row w ao n L) (hb : Below w.heap.size w w') : Row w' ao n L := by
  refine ⟨h.1, h.2.1, fun hn => ?_⟩
  obtain ⟨b, off, e, hc⟩ := h.2.2 hn
  refine ⟨b, off, e, fun j hj => ?_⟩
  rw [hb.cell (World.block_lt_of_cell? w _ (hc j hj))]
  exact hc j hj

theorem Row.holds {w : World} {ao : Option Addr} {n : Nat} {L : List Int} (h : Row w ao n L) : ∀ b, ao = some b → ∀ j, j < n → w.cell? (b.add j) = some (.int .u8 (L.getD j 0)) := by
  intro b hb j hj
  obtain ⟨b', off, e, hc⟩ := h.2.2 (by omega)
  rw [e] at hb
  cases hb
  rw [Addr.add_lit]
  exact hc j hj

theorem clone_nil (w : World) : Calls Try.prog 6 #[.slice none 0 0] w fun e w' => e = .returned (.slice none 0 0) ∧ w' = w := by
  have qT : ∀ (w : World) (a : Option Addr) (n c n' c' : Nat), (binOp .eql 22 (.slice a n c) (.slice none n' c')).run Try.prog w = .ok (.bool a.isNone) w := fun w a n c n' c' => Lib.run_eql_slice_nil w _ _ a n c n' c' Try.underlying22
  go_enter Try.func6, Try.ntmps6
  go_wp2
  go_ret
  exact ⟨rfl, rfl⟩

set_option maxHeartbeats 1000000 in
theorem clone_empty (a : Addr) (cap : Nat) (w : World) : Calls Try.prog 6 #[.slice (some a) 0 cap] w fun e w' => e = .returned (.slice (some ⟨w.heap.size, 0, none⟩) 0 0) ∧ Below w.heap.size w w' := by
  have qT : ∀ (w : World) (a : Option Addr) (n c n' c' : Nat), (binOp .eql 22 (.slice a n c) (.slice none n' c')).run Try.prog w = .ok (.bool a.isNone) w := fun w a n c n' c' => Lib.run_eql_slice_nil w _ _ a n c n' c' Try.underlying22
  obtain ⟨i0, hi, hz0, hz1, hz2⟩ := info_parts info5
  go_enter Try.func6, Try.ntmps6
  go_wp2_with (at_make; go_must (refine wpList_make_full _ rfl _ _ 22 rfl w.heap.size 5 i0 (.int .u8 0) 1 Try.underlying22 hi hz0 hz1 _ _ _ _ 0 rfl rfl rfl rfl (by omega) (by unfold maxLen; omega) (Nat.le_refl _) ?_); intro w1 hown1 hgrow1)
  refine wp_loop_rounds 1 ?_
  rw [rounds_succ]
  go_wp2
  go_ret
  exact ⟨rfl, (Below.refl _ _).grown hgrow1 (Nat.le_refl _) (fun k h => by cases h)⟩

set_option maxHeartbeats 1000000 in
theorem clone_row (b off n cap : Nat) (L : List Int) (w : World) (hn : n ≤ 1048576) (hc : ∀ j, j < n → w.cell? ⟨b, off + j, none⟩ = some (.int .u8 (L.getD j 0))) :
    Calls Try.prog 6 #[.slice (some ⟨b, off, none⟩) n cap] w fun e w' => e = .returned (.slice (some ⟨w.heap.size, 0, none⟩) n n) ∧ (∀ j, j < n → w'.cell? ⟨w.heap.size, j, none⟩ = some (.int .u8 (L.getD j 0))) ∧ Below w.heap.size w w' := by
  have qT : ∀ (w : World) (a : Option Addr) (n c n' c' : Nat), (binOp .eql 22 (.slice a n c) (.slice none n' c')).run Try.prog w = .ok (.bool a.isNone) w := fun w a n c n' c' => Lib.run_eql_slice_nil w _ _ a n c n' c' Try.underlying22
  obtain ⟨i0, hi, hz0, hz1, hz2⟩ := info_parts info5
  go_enter Try.func6, Try.ntmps6
  go_wp2_with (at_make; go_must (refine wpList_make_full _ rfl _ _ 22 rfl w.heap.size 5 i0 (.int .u8 0) 1 Try.underlying22 hi hz0 hz1 _ _ _ _ n rfl rfl rfl rfl (by rw [hz2]; omega) (by unfold maxLen; omega) (Nat.le_refl _) ?_); intro w1 hown1 hgrow1)
  have h0 : Below w.heap.size w w1 := (Below.refl _ _).grown hgrow1 (Nat.le_refl _) (fun k h => by cases h)
  have HO : Hid (w1.ownsRow w.heap.size 5 1 (.slice (some ⟨w.heap.size, 0, none⟩) n n) n (List.replicate n (.int .u8 0))) := by
    have := hown1
    rwa [show (Value.int IntKind.u8 0).cells = #[.int .u8 0] from rfl, Nat.mul_one, toList_madeCells_one] at this
  clear hown1 hgrow1 qT
  go_loopw [4] (fun i wr => ∃ (k : Nat) (xs : List Value), k ≤ n ∧ i = .int .i64 k ∧ Hid (wr.ownsRow w.heap.size 5 1 (.slice (some ⟨w.heap.size, 0, none⟩) n n) n xs) ∧ Hid (∀ j, j < k → xs[j]? = some (.int .u8 (L.getD j 0))) ∧ Hid (∀ j, j < n → ∃ z, xs[j]? = some (.int .u8 z)) ∧ Below w.heap.size w wr)
    (fun i _ => n - (intOf i).toNat)
  case atStart => exact ⟨0, _, Nat.zero_le _, rfl, HO, fun j hj => absurd hj (Nat.not_lt_zero _), fun j hj => ⟨0, by simp [hj]⟩, h0⟩
  case round =>
    obtain ⟨k, xs, hk, rfl, hown, hdone, hall, hbel⟩ := hrel
    by_cases hlt : k < n
    · have hsrc : wr.cell? ⟨b, off + k, none⟩ = some (.int .u8 (L.getD k 0)) := (hbel.cell (World.block_lt_of_cell? w _ (hc k hlt))).trans (hc k hlt)
      obtain ⟨z, hz⟩ := hall.out k hlt
      have hdst : wr.cell? ⟨w.heap.size, k, none⟩ = some (.int .u8 z) := (hown.out.cellAt k (by omega)).trans hz
      have hfr : wr.frozen? ⟨w.heap.size, k, none⟩ = false := hown.out.frozenAt k
      have hxl : xs.length = n := by have := hown.out.1; omega
      obtain ⟨r1, r2⟩ := hown.out.stored k (.int .u8 (L.getD k 0))
      have R1 : Hid ((wr.setCell ⟨w.heap.size, k, none⟩ (.int .u8 (L.getD k 0))).ownsRow w.heap.size 5 1 (.slice (some ⟨w.heap.size, 0, none⟩) n n) n (xs.set k (.int .u8 (L.getD k 0)))) := r1
      have R2 : Hid (∀ j, j < k + 1 → (xs.set k (.int .u8 (L.getD k 0)))[j]? = some (.int .u8 (L.getD j 0))) := by
        intro j hj
        rw [List.getElem?_set]
        by_cases e : k = j
        · subst e; rw [if_pos rfl, if_pos (by omega)]
        · rw [if_neg e]; exact hdone.out j (by omega)
      have R3 : Hid (∀ j, j < n → ∃ z, (xs.set k (.int .u8 (L.getD k 0)))[j]? = some (.int .u8 z)) := by
        intro j hj
        rw [List.getElem?_set]
        by_cases e : k = j
        · subst e; rw [if_pos rfl, if_pos (by omega)]; exact ⟨_, rfl⟩
        · rw [if_neg e]; exact hall.out j hj
      have R4 : Hid (Below w.heap.size w (wr.setCell ⟨w.heap.size, k, none⟩ (.int .u8 (L.getD k 0)))) := hbel.setCell (Nat.le_refl _) _
      clear r1 r2 hown hdone hall hbel hz hxl
      go_wp2
      go_roundw
      case rel => exact ⟨k + 1, _, by omega, by go_num, R1, R2, R3, R4.out⟩
      case measure => simp [intOf]; omega
    · obtain rfl : k = n := by omega
      go_wp2
      go_ret
      exact ⟨rfl, fun j hj => (hown.out.cellAt j (by omega)).trans (hdone.out j hj), hbel⟩

/-- zzCloneB1: the copy has its length for capacity, reads as what was copied, and lies in new memory. -/
theorem clone_any (ao : Option Addr) (n cap : Nat) (L : List Int) (w : World) (hn : n ≤ 1048576) (hcap : ao = none → cap = 0) (h : Row w ao n L) :
    Calls Try.prog 6 #[.slice ao n cap] w fun e w' => ∃ ao', e = .returned (.slice ao' n n) ∧ Row w' ao' n L ∧ Below w.heap.size w w' := by
  by_cases h0 : 0 < n
  · obtain ⟨b, off, rfl, hc⟩ := h.2.2 h0
    refine (clone_row b off n cap L w hn hc).mono fun e w' ⟨he, h1, h2⟩ => ⟨_, he, ⟨h.1, (fun e => by cases e), fun _ => ⟨w.heap.size, 0, rfl, fun j hj => ?_⟩⟩, h2⟩
    rw [Nat.zero_add]; exact h1 j hj
  · obtain rfl : n = 0 := by omega
    cases ao with
    | none =>
      obtain rfl := hcap rfl
      exact (clone_nil w).mono fun e w' ⟨he, hw⟩ => ⟨none, he, ⟨h.1, fun _ => rfl, fun h => absurd h (Nat.lt_irrefl _)⟩, by rw [hw]; exact Below.refl _ _⟩
    | some a => exact (clone_empty a cap w).mono fun e w' ⟨he, hw⟩ => ⟨_, he, ⟨h.1, (fun e => by cases e), fun h => absurd h (Nat.lt_irrefl _)⟩, hw⟩

end Go.Proofs.Qxb6627711a
