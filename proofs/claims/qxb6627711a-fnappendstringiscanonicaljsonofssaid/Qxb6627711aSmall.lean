/-
  The small functions; AppendString with its result written out.
-/
import Derived.Test.Qxb6627711aClone
namespace Go.Proofs.Qxb6627711a
open Go.RowKit Pl
set_option linter.unusedVariables false

/-- Has the byte a two-byte escape? -/
def shortB (d : Int) : Bool := decide (d = 8 ∨ d = 9 ∨ d = 10 ∨ d = 12 ∨ d = 13 ∨ d = 34 ∨ d = 92)

theorem short_any (d : Int) (w : World) : Calls Try.prog 9 #[.int .i64 d] w fun e w' => e = .returned (.bool (shortB d)) ∧ w' = w := by
  by_cases h : d = 8 ∨ d = 9 ∨ d = 10 ∨ d = 12 ∨ d = 13 ∨ d = 34 ∨ d = 92
  · have hb : shortB d = true := decide_eq_true h
    rw [hb]; clear hb
    rcases h with rfl | rfl | rfl | rfl | rfl | rfl | rfl
    all_goals
      go_enter Try.func9, Try.ntmps9
      go_wp2
      go_ret
      exact ⟨rfl, rfl⟩
  · have hb : shortB d = false := decide_eq_false h
    rw [hb]; clear hb
    have h1 : (d == 8) = false := by simp; omega
    have h2 : (d == 9) = false := by simp; omega
    have h3 : (d == 10) = false := by simp; omega
    have h4 : (d == 12) = false := by simp; omega
    have h5 : (d == 13) = false := by simp; omega
    have h6 : (d == 34) = false := by simp; omega
    have h7 : (d == 92) = false := by simp; omega
    clear h
    go_enter Try.func9, Try.ntmps9
    go_wp2
    go_ret
    exact ⟨rfl, rfl⟩

theorem esc_len_short {c : Int} (h : shortB c = true) : (esc c).length = 2 := by
  have h := of_decide_eq_true h
  rcases h with rfl | rfl | rfl | rfl | rfl | rfl | rfl <;> rfl
theorem esc_len_hex {c : Int} (h : shortB c = false) (h1 : c < 32) : (esc c).length = 6 := by
  have h := of_decide_eq_false h
  rw [esc_hex c h1 (by omega) (by omega) (by omega) (by omega) (by omega)]; rfl
theorem esc_len_plain {c : Int} (h : shortB c = false) (h1 : ¬ c < 32) : (esc c).length = 1 := by
  have h := of_decide_eq_false h
  rw [esc_plain c (by omega) (by omega) (by omega)]; rfl

theorem width_any (c : Int) (h0 : 0 ≤ c) (h1 : c ≤ 255) (w : World) : Calls Try.prog 12 #[.int .u8 c] w fun e w' => e = .returned (.int .i64 (esc c).length) ∧ w' = w := by
  cases hs : shortB c with
  | true =>
    have e := esc_len_short hs
    rw [e]; clear e
    have cS : Calls Try.prog 9 #[.int .i64 c] w fun e w' => e = .returned (.bool true) ∧ w' = w := by rw [← hs]; exact short_any c w
    clear hs
    go_enter Try.func12, Try.ntmps12
    go_wp2_with (go_at_call 9; refine cS.mono ?_; rintro e w' ⟨rfl, rfl⟩)
    go_ret
    exact ⟨rfl, rfl⟩
  | false =>
    have cS : Calls Try.prog 9 #[.int .i64 c] w fun e w' => e = .returned (.bool false) ∧ w' = w := by rw [← hs]; exact short_any c w
    by_cases h : c < 32
    · have e := esc_len_hex hs h
      rw [e]; clear e hs
      go_enter Try.func12, Try.ntmps12
      go_wp2_with (go_at_call 9; refine cS.mono ?_; rintro e w' ⟨rfl, rfl⟩)
      go_ret
      exact ⟨rfl, rfl⟩
    · have e := esc_len_plain hs h
      rw [e]; clear e hs
      go_enter Try.func12, Try.ntmps12
      go_wp2_with (go_at_call 9; refine cS.mono ?_; rintro e w' ⟨rfl, rfl⟩)
      go_ret
      exact ⟨rfl, rfl⟩

theorem bytes11_any (a0 : Option Addr) (len0 cap0 : Nat) (a b : ByteArray) (w : World) (h0 : len0 ≤ maxLen) (h1 : a.size ≤ maxLen) (h2 : b.size ≤ maxLen) :
    Calls Try.prog 11 #[.slice a0 len0 cap0, .string a, .string b] w fun e w' => (∃ q, e = .returned (.bool q)) ∧ w' = w := by
  unfold maxLen at h0 h1 h2
  go_enter Try.func11, Try.ntmps11
  go_wp2
  all_goals
    go_ret
    exact ⟨⟨_, rfl⟩, rfl⟩

theorem bytes5_any (a0 : Option Addr) (len0 cap0 : Nat) (a : ByteArray) (w : World) (h0 : len0 ≤ maxLen) (h1 : a.size ≤ maxLen) :
    Calls Try.prog 5 #[.slice a0 len0 cap0, .string a] w fun e w' => (∃ q, e = .returned (.bool q)) ∧ w' = w := by
  unfold maxLen at h0 h1
  go_enter Try.func5, Try.ntmps5
  go_wp2
  all_goals
    go_ret
    exact ⟨⟨_, rfl⟩, rfl⟩

/-- AppendString, its result written out: N bytes R in a block of their own. -/
theorem append_row (ao : Option Addr) (n : Nat) (L : List Int) (s : ByteArray) (w : World) (hs : s.size ≤ maxLen) (h : Row w ao n L) (hlen : n + 6 * s.size + 2 ≤ 140737488355328) :
    Calls Try.prog 7 #[.slice ao n n, .string s] w fun e w' => ∃ (g cap N : Nat) (R : List Int), e = .returned (.slice (some ⟨g, 0, none⟩) N cap) ∧ 2 ≤ N ∧ N ≤ n + 6 * s.size + 2 ∧ N ≤ cap ∧ Hid (R.length = N) ∧ Hid (R = L ++ [34] ++ escL (zs s) ++ [34]) ∧
      (∀ j, j < N → w'.cell? ⟨g, j, none⟩ = some (.int .u8 (R.getD j 0))) ∧ Below w.heap.size w w' := by
  refine (append_any ao n L s w hs h.2.1 h.1 h.holds hlen).mono fun e w' ⟨v, he, hb⟩ => ?_
  have hel := escL_len (zs s)
  rw [zs_length] at hel
  have hN : (L ++ [34] ++ escL (zs s) ++ [34]).length = n + 1 + (escL (zs s)).length + 1 := by simp [h.1]; omega
  obtain ⟨ho, hbel, _⟩ := hb
  rcases ho.2 with ⟨_, h0⟩ | ⟨g, cap, cur, rfl, hbg, hg, hnc, hcm, hcs, htake⟩
  · omega
  · refine ⟨g, cap, _, _, he, by omega, by omega, hnc, hN, rfl, fun j hj => ?_, hbel⟩
    rw [ho.cellAt j (by omega), List.getElem?_map, List.getD_eq_getElem?_getD, List.getElem?_eq_getElem (by omega)]
    rfl

end Go.Proofs.Qxb6627711a
