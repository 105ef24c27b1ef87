/-
  FnAppendStringIsCanonicalJSONOfS: the walk.
-/
import Derived.Test.Qxb6627711aCanon
import Derived.Deep.QuietTactic
import Derived.BigQuiet
namespace Go.Proofs.Qxb6627711a
open Go.RowKit Pl
set_option linter.unusedVariables false

set_option maxHeartbeats 4000000 in
set_option maxRecDepth 100000 in
theorem canon_walk (a0 : Option Addr) (len0 cap0 : Nat) (L : List Int) (s : ByteArray) (w : World) (hcap : a0 = none → cap0 = 0) (hrow : Row w a0 len0 L) (h0 : len0 ≤ maxLen) (h1 : s.size ≤ maxLen) :
    Calls Try.prog 3 #[.slice a0 len0 cap0, .string s] w fun e w' => e = .returned (.bool true) ∧ Below w.heap.size w w' := by
  unfold maxLen at h0 h1
  by_cases hl0 : 524288 < len0
  · go_enter Try.func3, Try.ntmps3
    go_wp2_with (go_at_call 5; refine (bytes5_any _ _ _ _ _ h0 h1).mono ?_; rintro e w' ⟨⟨q, rfl⟩, rfl⟩)
    all_goals
      go_ret
      exact ⟨rfl, Below.refl _ _⟩
  by_cases hl1 : 524288 < s.size
  · go_enter Try.func3, Try.ntmps3
    go_wp2_with (go_at_call 5; refine (bytes5_any _ _ _ _ _ h0 h1).mono ?_; rintro e w' ⟨⟨q, rfl⟩, rfl⟩)
    all_goals
      go_ret
      exact ⟨rfl, Below.refl _ _⟩
  go_enter Try.func3, Try.ntmps3
  go_wp2_with (go_at_call 5; refine (bytes5_any _ _ _ _ _ h0 h1).mono ?_; rintro e wx ⟨⟨q, rfl⟩, rfl⟩)
  · go_ret
    exact ⟨rfl, Below.refl _ _⟩
  refine (clone_any a0 len0 cap0 L _ (by omega) hcap hrow).mono ?_
  rintro e w1 ⟨ao1, rfl, hrow1, hb1⟩
  clear hrow
  go_wp2_with fail
  refine (clone_any ao1 len0 len0 L w1 (by omega) hrow1.2.1 hrow1).mono ?_
  rintro e w2 ⟨ao2, rfl, hrow2, hb2⟩
  have hrow1' := hrow1.below hb2
  clear hrow1
  go_wp2_with fail
  refine (append_row ao1 len0 L s w2 (by unfold maxLen; omega) hrow1' (by omega)).mono ?_
  rintro e w3 ⟨gr, cr, nr, R, rfl, hr2, hr3, hr4, hRl, hR, hRc, hb3⟩
  have hrow2' := hrow2.below hb3
  have hLl : L.length = len0 := hrow2.1
  have HL : Hid (L.length = len0) := hLl
  have hP : 0 < len0 → ∃ b off, ao2 = some ⟨b, off, none⟩ ∧ ∀ j, j < len0 → w3.cell? ⟨b, off + j, none⟩ = some (.int .u8 (L.getD j 0)) := hrow2'.2.2
  have HP : Hid (0 < len0 → ∃ b off, ao2 = some ⟨b, off, none⟩ ∧ ∀ j, j < len0 → w3.cell? ⟨b, off + j, none⟩ = some (.int .u8 (L.getD j 0))) := hP
  have HB : Hid (Below wx.heap.size wx w3) := by
    have g2 := hb1.trans (hb2.mono hb1.size)
    exact g2.trans (hb3.mono g2.size)
  have HR : Hid (∀ j, j < nr → w3.cell? ⟨gr, j, none⟩ = some (.int .u8 (R.getD j 0))) := hRc
  have cro : w3.cell? ⟨gr, len0, none⟩ = some (.int .u8 34) := by
    rw [← read_open hLl hR.out]; exact hRc _ (by have := at_end hLl hR.out hRl.out; have := (at_bd len0 s s.size (Nat.le_refl _)).1; omega)
  have crl : w3.cell? ⟨gr, nr - 1, none⟩ = some (.int .u8 34) := by rw [← last_x hR.out hRl.out]; exact hRc _ (by omega)
  have hend := at_end hLl hR.out hRl.out
  have hbd := at_bd len0 s s.size (Nat.le_refl _)
  have hnr : len0 + 2 ≤ nr := by omega
  have HE : Hid (at_ len0 s s.size + 1 = nr) := hend
  clear hrow2 hrow2' hrow1' hb1 hb2 hb3 hRc hP hLl hend hbd
  go_wp2_with fail
  go_loopw [8] (fun i wr => ∃ (k q : Nat), k ≤ len0 ∧ i = .int .i64 k ∧ wr = w3.drewN q) (fun i _ => len0 - (intOf i).toNat)
  case atStart => exact ⟨0, 0, Nat.zero_le _, rfl, rfl⟩
  case round =>
    obtain ⟨k, q1, hk1, rfl, rfl⟩ := hrel
    by_cases hlt : k < len0
    · obtain ⟨b, off, rfl, hcl⟩ := HP.out (by omega)
      have hlt2 : (k : Int) < (len0 : Int) := by omega
      have hlt3 : (k : Int) < (nr : Int) := by omega
      obtain ⟨z, hz⟩ : ∃ z, z = L.getD k 0 := ⟨_, rfl⟩
      have c1 : w3.cell? ⟨b, off + k, none⟩ = some (.int .u8 z) := by rw [hz]; exact hcl k hlt
      have c2 : w3.cell? ⟨gr, k, none⟩ = some (.int .u8 z) := by rw [hz, ← read_out hR.out k (by rw [HL.out]; exact hlt)]; exact HR.out k (by omega)
      clear hz hcl
      go_wp2_with fail
      go_quiet (fail)
      go_wp2
      go_roundw
      case rel => exact ⟨k + 1, _, by omega, by go_num, rfl⟩
      case measure => simp [intOf]; omega
    · obtain rfl : k = len0 := by omega
      clear HP
      have hge : ¬ (k : Int) < (k : Int) := by omega
      go_wp2_with fail
      go_loop [10, 11] (fun tj tk => ∃ (m j : Nat), m ≤ s.size ∧ tk = .int .i64 m ∧ tj = .int .i64 j ∧ k + 1 ≤ j ∧ j + 1 ≤ nr ∧ Hid (j = at_ k s m)) (fun _ tk => s.size - (intOf tk).toNat)
      case atStart =>
        refine ⟨0, k + 1, Nat.zero_le _, rfl, by go_num, by omega, by omega, rfl⟩
      case round =>
        obtain ⟨m, j, hm, rfl, rfl, hj1, hj2, HJ⟩ := hrel
        clear cro crl
        by_cases hlt2 : m < s.size
        · have h255 := UInt8.toNat_lt s[m]
          have hroom := at_lt hlt2 HL.out hR.out hRl.out
          have hread := fun i hi => at_read hlt2 HL.out hR.out i hi
          have hsucc := at_succ k s m hlt2
          rw [← HJ.out] at hroom hread hsucc
          have hcell : ∀ i, i < (esc ((s[m].toNat : Nat) : Int)).length → w3.cell? ⟨gr, j + i, none⟩ = some (.int .u8 ((esc ((s[m].toNat : Nat) : Int)).getD i 0)) := fun i hi => by
            rw [← hread i hi]; exact HR.out _ (by omega)
          clear hread
          cases hsh : shortB ((s[m].toNat : Nat) : Int) with
          | true =>
            obtain ⟨e1, e2⟩ := esc_short hsh
            rw [e1] at hroom hsucc hcell
            have HSu : Hid (at_ k s (m + 1) = j + 2) := hsucc
            have hr2 : j + 2 + 1 ≤ nr := hroom
            have c0 : w3.cell? ⟨gr, j, none⟩ = some (.int .u8 92) := hcell 0 (by simp)
            obtain ⟨z, hz⟩ : ∃ z, z = letter ((s[m].toNat : Nat) : Int) := ⟨_, rfl⟩
            have c1 : w3.cell? ⟨gr, j + 1, none⟩ = some (.int .u8 z) := by rw [hz]; exact hcell 1 (by simp)
            have hzu : (z == 117) = false := by rw [hz]; simpa using e2
            have cD := sdec_any z ((s[m].toNat : Nat) : Int) hz hsh
            clear hcell hroom hsucc e1 e2 hz hsh
            go_wp2_with fail
            refine (cD _).mono ?_
            rintro e wy ⟨rfl, rfl⟩
            clear cD
            go_wp2
            go_round
            case rel => exact ⟨m + 1, j + 2, by omega, by go_num, by go_num, by omega, by omega, HSu.out.symm⟩
            case measure => simp [intOf]; omega
          | false =>
            by_cases h32 : ((s[m].toNat : Nat) : Int) < 32
            · have e1 := esc_hexa hsh h32
              rw [e1] at hroom hsucc hcell
              have HSu : Hid (at_ k s (m + 1) = j + 6) := hsucc
              have hr2 : j + 6 + 1 ≤ nr := hroom
              have c0 : w3.cell? ⟨gr, j, none⟩ = some (.int .u8 92) := hcell 0 (by simp)
              have c1 : w3.cell? ⟨gr, j + 1, none⟩ = some (.int .u8 117) := hcell 1 (by simp)
              have c2 : w3.cell? ⟨gr, j + 2, none⟩ = some (.int .u8 48) := hcell 2 (by simp)
              have c3 : w3.cell? ⟨gr, j + 3, none⟩ = some (.int .u8 48) := hcell 3 (by simp)
              obtain ⟨hi, hhi⟩ : ∃ hi, hi = ((s[m].toNat : Nat) : Int) / 16 := ⟨_, rfl⟩
              obtain ⟨lo, hlo⟩ : ∃ lo, lo = ((s[m].toNat : Nat) : Int) % 16 := ⟨_, rfl⟩
              have hsum : hi * 16 + lo = ((s[m].toNat : Nat) : Int) := by omega
              have hi1 : 0 ≤ hi ∧ hi < 2 := by omega
              have lo1 : 0 ≤ lo ∧ lo < 16 := by omega
              obtain ⟨z4, hz4⟩ : ∃ z, z = hexd hi := ⟨_, rfl⟩
              obtain ⟨z5, hz5⟩ : ∃ z, z = hexd lo := ⟨_, rfl⟩
              have c4 : w3.cell? ⟨gr, j + 4, none⟩ = some (.int .u8 z4) := by rw [hz4, hhi]; exact hcell 4 (by simp)
              have c5 : w3.cell? ⟨gr, j + 5, none⟩ = some (.int .u8 z5) := by rw [hz5, hlo]; exact hcell 5 (by simp)
              have cD4 := hexv_any z4 hi hz4 (by omega) (by omega)
              have cD5 := hexv_any z5 lo hz5 (by omega) (by omega)
              have cS : ∀ w, Calls Try.prog 9 #[.int .i64 (hi * 16 + lo)] w fun e w' => e = .returned (.bool false) ∧ w' = w := fun w => by
                have := short_any (hi * 16 + lo) w
                rwa [hsum, hsh, ← hsum] at this
              have hlast : (((s[m].toNat : Nat) : Int) != hi * 16 + lo) = false := by rw [hsum]; simp
              have hd32 : ¬ 32 ≤ hi * 16 + lo := by omega
              clear hcell hroom hsucc e1 hhi hlo hz4 hz5 hsh hsum
              go_wp2_with fail
              refine (cD4 _).mono ?_
              rintro e wy ⟨rfl, rfl⟩
              clear cD4
              go_wp2_with fail
              refine (cD5 _).mono ?_
              rintro e wy ⟨rfl, rfl⟩
              clear cD5
              go_wp2_with (go_at_call 9; refine (cS _).mono ?_; rintro e wy ⟨rfl, rfl⟩)
              go_round
              case rel => exact ⟨m + 1, j + 6, by omega, by go_num, by go_num, by omega, by omega, HSu.out.symm⟩
              case measure => simp [intOf]; omega
            · obtain ⟨e1, e2, e3⟩ := esc_plainb hsh h32
              rw [e1] at hroom hsucc hcell
              have HSu : Hid (at_ k s (m + 1) = j + 1) := hsucc
              have hr2 : j + 1 + 1 ≤ nr := hroom
              have c0 : w3.cell? ⟨gr, j, none⟩ = some (.int .u8 ((s[m].toNat : Nat) : Int)) := hcell 0 (by simp)
              have hb1 : (((s[m].toNat : Nat) : Int) == 92) = false := by simpa using e2
              have hb2 : (((s[m].toNat : Nat) : Int) == 34) = false := by simpa using e3
              clear hcell hroom hsucc e1 e2 e3 hsh
              go_wp2
              go_round
              case rel => exact ⟨m + 1, j + 1, by omega, by go_num, by go_num, by omega, by omega, HSu.out.symm⟩
              case measure => simp [intOf]; omega
        · obtain rfl : m = s.size := by omega
          have hjn : j + 1 = nr := by rw [HJ.out]; exact HE.out
          have hge2 : ¬ (j : Int) < (nr : Int) - 1 := by omega
          clear hjn
          go_wp2
          go_ret
          exact ⟨rfl, ⟨HB.out.os, HB.out.tape, HB.out.output, HB.out.size, HB.out.block⟩⟩

end Go.Proofs.Qxb6627711a
