/-
  The reader of the canonical law: plain part and small walks.
-/
import Derived.Test.Qxb6627711aSmall
import Derived.Test.Qxb6627711aCut
namespace Go.Proofs.Qxb6627711a
open Go.RowKit Pl
set_option linter.unusedVariables false

namespace Pl
/-- Where the reader stands behind k bytes of s. -/
def at_ (n : Nat) (s : ByteArray) (k : Nat) : Nat := n + 1 + (escL ((zs s).take k)).length

theorem split_at (s : ByteArray) (k : Nat) (h : k < s.size) : escL (zs s) = escL ((zs s).take k) ++ (esc ((s[k].toNat : Nat) : Int) ++ escL ((zs s).drop (k + 1))) := by
  have e : zs s = (zs s).take (k + 1) ++ (zs s).drop (k + 1) := (List.take_append_drop _ _).symm
  rw [zs_take_succ s k h] at e
  calc escL (zs s) = escL ((zs s).take k ++ [((s[k].toNat : Nat) : Int)] ++ (zs s).drop (k + 1)) := by rw [← e]
    _ = _ := by rw [escL_append, escL_append, escL_one, List.append_assoc]

theorem at_succ (n : Nat) (s : ByteArray) (k : Nat) (h : k < s.size) : at_ n s (k + 1) = at_ n s k + (esc ((s[k].toNat : Nat) : Int)).length := by
  unfold at_; rw [zs_take_succ s k h, escL_append, escL_one, List.length_append]; omega

theorem at_end {L R : List Int} {s : ByteArray} {n N : Nat} (hL : L.length = n) (hR : R = L ++ [34] ++ escL (zs s) ++ [34]) (hN : R.length = N) : at_ n s s.size + 1 = N := by
  unfold at_; rw [← zs_length s, List.take_length, ← hN, hR]; simp [hL]; omega

theorem at_lt {L R : List Int} {s : ByteArray} {n N k : Nat} (h : k < s.size) (hL : L.length = n) (hR : R = L ++ [34] ++ escL (zs s) ++ [34]) (hN : R.length = N) :
    at_ n s k + (esc ((s[k].toNat : Nat) : Int)).length + 1 ≤ N := by
  have e := split_at s k h
  unfold at_; rw [← hN, hR, e]; simp [hL]; omega

theorem at_read {L R : List Int} {s : ByteArray} {n k : Nat} (h : k < s.size) (hL : L.length = n) (hR : R = L ++ [34] ++ escL (zs s) ++ [34]) (i : Nat) (hi : i < (esc ((s[k].toNat : Nat) : Int)).length) :
    R.getD (at_ n s k + i) 0 = (esc ((s[k].toNat : Nat) : Int)).getD i 0 := by
  have e := split_at s k h
  have e2 : at_ n s k + i = (L ++ [34] ++ escL ((zs s).take k)).length + i := by unfold at_; simp [hL]; omega
  rw [e2, hR, e, ← List.append_assoc (L ++ [34]), List.append_assoc (L ++ [34] ++ escL ((zs s).take k)), getD_right, List.append_assoc, getD_left _ _ i hi]

theorem at_bd (n : Nat) (s : ByteArray) (k : Nat) (h : k ≤ s.size) : n + 1 ≤ at_ n s k ∧ at_ n s k ≤ n + 1 + 6 * s.size := by
  have := escL_len ((zs s).take k)
  rw [List.length_take, zs_length] at this
  unfold at_; omega

theorem read_out {L R : List Int} {s : ByteArray} (hR : R = L ++ [34] ++ escL (zs s) ++ [34]) (i : Nat) (hi : i < L.length) : R.getD i 0 = L.getD i 0 := by
  rw [hR, List.append_assoc, List.append_assoc, getD_left _ _ i hi]
theorem read_open {L R : List Int} {s : ByteArray} {n : Nat} (hL : L.length = n) (hR : R = L ++ [34] ++ escL (zs s) ++ [34]) : R.getD n 0 = 34 := by
  have e : n = L.length + 0 := by omega
  rw [e, hR, List.append_assoc, List.append_assoc, getD_right]; rfl

/-- The letter behind the backslash, for a byte that has a two-byte escape. -/
def letter (c : Int) : Int := if c = 34 then 34 else if c = 92 then 92 else if c = 8 then 98 else if c = 9 then 116 else if c = 10 then 110 else if c = 12 then 102 else 114
theorem esc_short {c : Int} (h : shortB c = true) : esc c = [92, letter c] ∧ letter c ≠ 117 := by
  have h := of_decide_eq_true h
  rcases h with rfl | rfl | rfl | rfl | rfl | rfl | rfl <;> exact ⟨rfl, by decide⟩
theorem esc_hexa {c : Int} (h : shortB c = false) (h1 : c < 32) : esc c = [92, 117, 48, 48, hexd (c / 16), hexd (c % 16)] := by
  have h := of_decide_eq_false h
  exact esc_hex c h1 (by omega) (by omega) (by omega) (by omega) (by omega)
theorem esc_plainb {c : Int} (h : shortB c = false) (h1 : ¬ c < 32) : esc c = [c] ∧ c ≠ 92 ∧ c ≠ 34 := by
  have h := of_decide_eq_false h
  exact ⟨esc_plain c (by omega) (by omega) (by omega), by omega, by omega⟩
end Pl

theorem ret_int {k : IntKind} {a b : Int} (h : a = b) : Ending.returned (.int k a) = .returned (.int k b) := by rw [h]

theorem hexv_any (z x : Int) (hz : Hid (z = hexd x)) (h0 : 0 ≤ x) (h1 : x < 16) (w : World) : Calls Try.prog 8 #[.int .u8 z] w fun e w' => e = .returned (.int .i64 x) ∧ w' = w := by
  have hz := hz.out
  unfold hexd at hz
  by_cases h : x < 10
  · rw [if_pos h] at hz
    subst hz
    have h2 : 48 ≤ 48 + x ∧ 48 + x ≤ 57 := by omega
    go_enter Try.func8, Try.ntmps8
    go_wp2
    go_ret
    exact ⟨ret_int (by omega), rfl⟩
  · rw [if_neg h] at hz
    subst hz
    have h2 : 97 ≤ 87 + x ∧ 87 + x ≤ 102 := by omega
    go_enter Try.func8, Try.ntmps8
    go_wp2
    go_ret
    exact ⟨ret_int (by omega), rfl⟩

theorem sdec_any (z c : Int) (hz : Hid (z = letter c)) (h : Hid (shortB c = true)) (w : World) : Calls Try.prog 10 #[.int .u8 z] w fun e w' => e = .returned (.int .i64 c) ∧ w' = w := by
  have hz := hz.out
  have h := of_decide_eq_true h.out
  subst hz
  rcases h with rfl | rfl | rfl | rfl | rfl | rfl | rfl
  all_goals
    simp only [letter]
    go_enter Try.func10, Try.ntmps10
    go_wp2
    go_ret
    exact ⟨rfl, rfl⟩

end Go.Proofs.Qxb6627711a
