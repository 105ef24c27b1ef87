/-
  The small functions of the laws.
-/
import Derived.Test.Qxb6627839aDoorVec
import Derived.Deep.QuietTactic
import Derived.BigQuiet
import Derived.Laws.CopyOwn
namespace Go.Proofs.Qxb6627839aDoor
open Go.RowKit
set_option linter.unusedVariables false

theorem drewN_ex (w : World) (q n : Nat) : ∃ r, (w.drewN q).drewN n = w.drewN r := ⟨q + n, by simp⟩

set_option maxHeartbeats 1000000 in
/-- zzB1DecLen: how many digits. -/
theorem declen_any (c : Nat) (hc : c < 18446744073709551616) (w : World) :
    Calls Tryd.prog 7 #[.int .u64 c] w fun e w' => e = .returned (.int .i64 ((Lib.decDigits c).length : Int)) ∧ w' = w := by
  have HC : Hid ((Lib.decDigits c).length = Lib.nDigits c) := Lib.decDigits_length c
  have h20 : Lib.nDigits c ≤ 20 := by rw [← HC.out]; exact nd20 c hc
  go_enter Tryd.func7, Tryd.ntmps7
  go_wp2_with fail
  go_loop [0, 3] (fun tc tn => ∃ (v m : Nat), tc = .int .u64 v ∧ tn = .int .i64 m ∧ v < 18446744073709551616 ∧ m ≤ 20 ∧ Hid (m + Lib.nDigits v = Lib.nDigits c + 1)) (fun tc _ => (intOf tc).toNat)
  case atStart => exact ⟨c, 1, rfl, rfl, hc, by omega, Nat.add_comm _ _⟩
  case round =>
    obtain ⟨v, m, rfl, rfl, hv, hm, HI⟩ := hrel
    by_cases h10 : v < 10
    · have hm2 : m = (Lib.decDigits c).length := by
        have := HI.out
        rw [Lib.nDigits_small h10] at this
        rw [HC.out]; omega
      have h10' : ¬ (10 : Int) ≤ (v : Int) := by omega
      have HM : Hid (m = (Lib.decDigits c).length) := hm2
      clear hm2
      go_wp2
      go_ret
      exact ⟨by rw [← HM.out]; rfl, rfl⟩
    · have HI2 : Hid (m + 1 + Lib.nDigits (v / 10) = Lib.nDigits c + 1) := by
        have := HI.out
        rw [Lib.nDigits_big h10] at this
        rw [Hid]; omega
      have hp := Lib.nDigits_pos (v / 10)
      have hm3 : m + 1 ≤ 20 := by have := HI2.out; omega
      have h10' : (10 : Int) ≤ (v : Int) := by omega
      clear HI hp
      go_wp2
      go_round
      case rel => exact ⟨v / 10, m + 1, by go_num, by go_num, by omega, by omega, HI2⟩
      case measure => simp [intOf]; omega

set_option maxHeartbeats 1000000 in
/-- zzB1SameElems: are the counts the same? -/
theorem same_any (a0 b0 : Option Addr) (na nb ca cb : Nat) (A B : List Nat) (w : World) (ha : na ≤ 9223372036854775807) (hb : nb ≤ 9223372036854775807) (hA : Row w a0 na A) (hB : Row w b0 nb B) :
    Calls Tryd.prog 10 #[.slice a0 na ca, .slice b0 nb cb] w fun e w' => e = .returned (.bool (A == B)) ∧ ∃ q, w' = w.drewN q := by
  by_cases hl : na = nb
  · subst hl
    have HA : Hid (Row w a0 na A) := hA
    have HB : Hid (Row w b0 na B) := hB
    clear hA hB
    go_enter Tryd.func10, Tryd.ntmps10
    go_wp2_with fail
    go_loopw [5] (fun i wr => ∃ (k q : Nat), k ≤ na ∧ i = .int .i64 k ∧ wr = w.drewN q ∧ Hid (A.take k = B.take k)) (fun i _ => na - (intOf i).toNat)
    case atStart => exact ⟨0, 0, Nat.zero_le _, rfl, rfl, rfl⟩
    case round =>
      obtain ⟨k, q, hk, rfl, rfl, HE⟩ := hrel
      by_cases hlt : k < na
      · obtain ⟨b1, o1, rfl, c1⟩ := HA.out.2.2 (by omega)
        obtain ⟨b2, o2, rfl, c2⟩ := HB.out.2.2 (by omega)
        obtain ⟨z1, hz1⟩ : ∃ z, z = A.getD k 0 := ⟨_, rfl⟩
        obtain ⟨z2, hz2⟩ : ∃ z, z = B.getD k 0 := ⟨_, rfl⟩
        have d1 : w.cell? ⟨b1, o1 + k, none⟩ = some (.int .u64 (z1 : Int)) := by rw [hz1]; exact c1 k hlt
        have d2 : w.cell? ⟨b2, o2 + k, none⟩ = some (.int .u64 (z2 : Int)) := by rw [hz2]; exact c2 k hlt
        have hlt' : (k : Int) < (na : Int) := by omega
        have hkA : k < A.length := by rw [HA.out.1]; exact hlt
        have hkB : k < B.length := by rw [HB.out.1]; exact hlt
        by_cases he : z1 = z2
        · subst he
          have HE2 : Hid (A.take (k + 1) = B.take (k + 1)) := by rw [Hid, take_snoc A k hkA, take_snoc B k hkB, HE.out, ← hz1, ← hz2]
          clear hz1 hz2 c1 c2 HE hkA hkB
          go_wp2_with fail
          go_quiet (fail)
          go_wp2
          go_roundw
          case rel => exact ⟨k + 1, _, by omega, by go_num, rfl, HE2⟩
          case measure => simp [intOf]; omega
        · have hne : ((z1 : Int) != (z2 : Int)) = true := by simp; omega
          have HF : Hid ((A == B) = false) := by
            rw [Hid, beq_eq_false_iff_ne]
            intro e
            rw [e] at hz1
            exact he (hz1.trans hz2.symm)
          clear hz1 hz2 c1 c2 HE hkA hkB
          go_wp2_with fail
          go_quiet (fail)
          go_wp2
          go_ret
          exact ⟨by rw [HF.out]; rfl, drewN_ex _ _ _⟩
      · have hge : ¬ (k : Int) < (na : Int) := by omega
        have HF : Hid ((A == B) = true) := by
          have hk2 : k = na := by omega
          have := HE.out
          rw [List.take_of_length_le (by rw [HA.out.1]; omega), List.take_of_length_le (by rw [HB.out.1]; omega)] at this
          rw [Hid, this]; simp
        clear HE
        go_wp2
        go_ret
        exact ⟨by rw [HF.out]; rfl, _, rfl⟩
  · have hne : ((na : Int) != (nb : Int)) = true := by simp; omega
    have HF : Hid ((A == B) = false) := by
      rw [Hid, beq_eq_false_iff_ne]
      intro e
      exact hl (by rw [← hA.1, ← hB.1, e])
    go_enter Tryd.func10, Tryd.ntmps10
    go_wp2
    go_ret
    exact ⟨by rw [HF.out]; rfl, 0, rfl⟩

theorem bytes5_any (a0 : Option Addr) (len0 cap0 : Nat) (k : Int) (w : World) (h0 : len0 ≤ maxLen) :
    Calls Tryd.prog 5 #[.slice a0 len0 cap0, .int .i64 k] w fun e w' => (∃ q, e = .returned (.bool q)) ∧ w' = w := by
  unfold maxLen at h0
  go_enter Tryd.func5, Tryd.ntmps5
  go_wp2
  all_goals
    go_ret
    exact ⟨⟨_, rfl⟩, rfl⟩

theorem bytes8_any (a0 b0 : Option Addr) (len0 cap0 len1 cap1 : Nat) (w : World) (h0 : len0 ≤ maxLen) (h1 : len1 ≤ maxLen) :
    Calls Tryd.prog 8 #[.slice a0 len0 cap0, .slice b0 len1 cap1] w fun e w' => (∃ q, e = .returned (.bool q)) ∧ w' = w := by
  unfold maxLen at h0 h1
  go_enter Tryd.func8, Tryd.ntmps8
  go_wp2
  all_goals
    go_ret
    exact ⟨⟨_, rfl⟩, rfl⟩

end Go.Proofs.Qxb6627839aDoor
