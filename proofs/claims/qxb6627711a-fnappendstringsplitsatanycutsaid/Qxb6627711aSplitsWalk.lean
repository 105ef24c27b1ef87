/-
  FnAppendStringSplitsAtAnyCut: the walk.
-/
import Derived.Test.Qxb6627711aSmall
import Derived.Test.Qxb6627711aCut
import Derived.Deep.QuietTactic
import Derived.BigQuiet
namespace Go.Proofs.Qxb6627711a
open Go.RowKit Pl
set_option linter.unusedVariables false

set_option maxHeartbeats 2000000 in
set_option maxRecDepth 100000 in
theorem splits_walk (a0 : Option Addr) (len0 cap0 : Nat) (L : List Int) (a b : ByteArray) (w : World) (hcap : a0 = none → cap0 = 0) (hrow : Row w a0 len0 L) (h0 : len0 ≤ maxLen) (h1 : a.size ≤ maxLen) (h2 : b.size ≤ maxLen) :
    Calls Try.prog 4 #[.slice a0 len0 cap0, .string a, .string b] w fun e w' => e = .returned (.bool true) ∧ Below w.heap.size w w' := by
  unfold maxLen at h0 h1 h2
  by_cases hl0 : 262144 < len0
  · go_enter Try.func4, Try.ntmps4
    go_wp2_with (go_at_call 11; refine (bytes11_any _ _ _ _ _ _ h0 h1 h2).mono ?_; rintro e w' ⟨⟨q, rfl⟩, rfl⟩)
    all_goals
      go_ret
      exact ⟨rfl, Below.refl _ _⟩
  by_cases hl1 : 262144 < a.size
  · go_enter Try.func4, Try.ntmps4
    go_wp2_with (go_at_call 11; refine (bytes11_any _ _ _ _ _ _ h0 h1 h2).mono ?_; rintro e w' ⟨⟨q, rfl⟩, rfl⟩)
    all_goals
      go_ret
      exact ⟨rfl, Below.refl _ _⟩
  by_cases hl2 : 262144 < b.size
  · go_enter Try.func4, Try.ntmps4
    go_wp2_with (go_at_call 11; refine (bytes11_any _ _ _ _ _ _ h0 h1 h2).mono ?_; rintro e w' ⟨⟨q, rfl⟩, rfl⟩)
    all_goals
      go_ret
      exact ⟨rfl, Below.refl _ _⟩
  go_enter Try.func4, Try.ntmps4
  go_wp2_with (go_at_call 11; refine (bytes11_any _ _ _ _ _ _ h0 h1 h2).mono ?_; rintro e wx ⟨⟨q, rfl⟩, rfl⟩)
  · go_ret
    exact ⟨rfl, Below.refl _ _⟩
  have hs1 : (a ++ b).size = a.size + b.size := ByteArray.size_append
  refine (clone_any a0 len0 cap0 L _ (by omega) hcap hrow).mono ?_
  rintro e w1 ⟨ao1, rfl, hrow1, hb1⟩
  clear hrow
  go_wp2_with fail
  refine (clone_any ao1 len0 len0 L w1 (by omega) hrow1.2.1 hrow1).mono ?_
  rintro e w2 ⟨ao2, rfl, hrow2, hb2⟩
  have hrow1' := hrow1.below hb2
  clear hrow1
  go_wp2_with fail
  refine (clone_any ao1 len0 len0 L w2 (by omega) hrow1'.2.1 hrow1').mono ?_
  rintro e w3 ⟨ao3, rfl, hrow3, hb3⟩
  have hrow2' := hrow2.below hb3
  clear hrow2 hrow1'
  go_wp2_with fail
  refine (append_row ao2 len0 L (a ++ b) w3 (by rw [hs1]; unfold maxLen; omega) hrow2' (by rw [hs1]; omega)).mono ?_
  rintro e w4 ⟨gr, cr, nr, R, rfl, hr2, hr3, hr4, hRl, hR, hRc, hb4⟩
  rw [hs1] at hr3
  have hrow3' := hrow3.below hb4
  clear hrow3 hrow2' hs1
  go_wp2_with fail
  refine (append_row ao3 len0 L a w4 (by unfold maxLen; omega) hrow3' (by omega)).mono ?_
  rintro e w5 ⟨gx, cx, nx, X, rfl, hx2, hx3, hx4, hXl, hX, hXc, hb5⟩
  clear hrow3'
  go_wp2_with fail
  refine (append_row none 0 [] b w5 (by unfold maxLen; omega) ⟨rfl, fun _ => rfl, fun h => absurd h (Nat.lt_irrefl _)⟩ (by omega)).mono ?_
  rintro e w6 ⟨gy, cy, ny, Y, rfl, hy2, hy3, hy4, hYl, hY, hYc, hb6⟩
  have hRc6 : ∀ j, j < nr → w6.cell? ⟨gr, j, none⟩ = some (.int .u8 (R.getD j 0)) := fun j hj => by
    have e1 := hRc j hj
    have e2 : w5.cell? ⟨gr, j, none⟩ = some (.int .u8 (R.getD j 0)) := (hb5.cell (World.block_lt_of_cell? w4 _ e1)).trans e1
    exact (hb6.cell (World.block_lt_of_cell? w5 _ e2)).trans e2
  have hXc6 : ∀ j, j < nx → w6.cell? ⟨gx, j, none⟩ = some (.int .u8 (X.getD j 0)) := fun j hj => by
    have e1 := hXc j hj
    exact (hb6.cell (World.block_lt_of_cell? w5 _ e1)).trans e1
  have HB : Hid (Below wx.heap.size wx w6) := by
    have g2 := hb1.trans (hb2.mono hb1.size)
    have g3 := g2.trans (hb3.mono g2.size)
    have g4 := g3.trans (hb4.mono g3.size)
    have g5 := g4.trans (hb5.mono g4.size)
    exact g5.trans (hb6.mono g5.size)
  have HR : Hid (∀ j, j < nr → w6.cell? ⟨gr, j, none⟩ = some (.int .u8 (R.getD j 0))) := hRc6
  have HX : Hid (∀ j, j < nx → w6.cell? ⟨gx, j, none⟩ = some (.int .u8 (X.getD j 0))) := hXc6
  have HY : Hid (∀ j, j < ny → w6.cell? ⟨gy, j, none⟩ = some (.int .u8 (Y.getD j 0))) := hYc
  have cxl : w6.cell? ⟨gx, nx - 1, none⟩ = some (.int .u8 34) := by rw [← last_x hX.out hXl.out]; exact hXc6 _ (by omega)
  have cy0 : w6.cell? ⟨gy, 0, none⟩ = some (.int .u8 34) := by rw [← first_y hY.out]; exact hYc _ (by omega)
  have hlen := len_r hX.out hY.out hR.out hXl.out hYl.out hRl.out
  have hwant := want_y hY.out hYl.out
  have HW : Hid (ny = 2 + (escL (zs b)).length) := hwant
  clear hRc6 hXc6 hYc hRc hXc hb1 hb2 hb3 hb4 hb5 hb6 hwant
  go_wp2_with fail
  go_loop [12, 13] (fun t i => ∃ (k m : Nat), k ≤ b.size ∧ i = .int .i64 k ∧ t = .int .i64 m ∧ m ≤ 2 + 6 * k ∧ Hid (m = 2 + (escL ((zs b).take k)).length)) (fun _ i => b.size - (intOf i).toNat)
  case atStart => exact ⟨0, 2, Nat.zero_le _, rfl, rfl, by omega, rfl⟩
  case round =>
    obtain ⟨k, m, hk, rfl, rfl, hm, HM⟩ := hrel
    by_cases hlt : k < b.size
    · have h255 := UInt8.toNat_lt b[k]
      have hel := esc_len ((b[k].toNat : Nat) : Int)
      have HM' : Hid (m + (esc ((b[k].toNat : Nat) : Int)).length = 2 + (escL ((zs b).take (k + 1))).length) := by
        rw [Hid, HM.out, zs_take_succ b k hlt, escL_append, escL_one, List.length_append]; omega
      go_wp2_with (go_at_call 12; refine (width_any _ (by omega) (by omega) _).mono ?_; rintro e wq ⟨rfl, rfl⟩)
      go_round
      case rel => exact ⟨k + 1, _, by omega, by go_num, by go_num, by omega, HM'⟩
      case measure => simp [intOf]; omega
    · obtain rfl : k = b.size := by omega
      obtain rfl : m = ny := by
        have e1 := HM.out
        rw [← zs_length b, List.take_length] at e1
        rw [e1, HW.out]
      clear HM HW
      go_wp2_with fail
      go_loopw [15] (fun i wr => ∃ (k q : Nat), k + 1 ≤ nx ∧ i = .int .i64 k ∧ wr = w6.drewN q) (fun i _ => nx - (intOf i).toNat)
      case atStart => exact ⟨0, 0, by omega, rfl, rfl⟩
      case round =>
        obtain ⟨k, q1, hk1, rfl, rfl⟩ := hrel
        by_cases hlt2 : k + 1 < nx
        · have hlt3 : (k : Int) < (nx : Int) - 1 := by omega
          have hlt4 : (k : Int) < (nr : Int) := by omega
          obtain ⟨z, hz⟩ : ∃ z, z = X.getD k 0 := ⟨_, rfl⟩
          have c1 : w6.cell? ⟨gx, k, none⟩ = some (.int .u8 z) := by rw [hz]; exact HX.out k (by omega)
          have c2 : w6.cell? ⟨gr, k, none⟩ = some (.int .u8 z) := by rw [hz, ← cut_x hX.out hR.out hXl.out k hlt2]; exact HR.out k (by omega)
          clear hz
          go_wp2_with fail
          go_quiet (fail)
          go_wp2
          go_roundw
          case rel => exact ⟨k + 1, _, by omega, by go_num, rfl⟩
          case measure => simp [intOf]; omega
        · have hge : ¬ (k : Int) < (nx : Int) - 1 := by omega
          clear cxl cy0 hlt
          go_wp2_with fail
          go_loopw [16] (fun i wr => ∃ (k2 q2 : Nat), 1 ≤ k2 ∧ k2 ≤ m ∧ i = .int .i64 k2 ∧ wr = w6.drewN q2) (fun i _ => m - (intOf i).toNat)
          case atStart => exact ⟨1, q1, by omega, by omega, rfl, rfl⟩
          case round =>
            obtain ⟨k2, q2, hk2, hk3, rfl, rfl⟩ := hrel
            by_cases hlt3 : k2 < m
            · have e3 : (nx : Int) - 1 + (k2 : Int) - 1 = ((nx - 1 + k2 - 1 : Nat) : Int) := by omega
              have hi1 : 0 ≤ (nx : Int) - 1 + (k2 : Int) - 1 ∧ (nx : Int) - 1 + (k2 : Int) - 1 < (nr : Int) := by omega
              have hi2 : (k2 : Int) < (m : Int) := by omega
              have hi3 : ((nx : Int) - 1 + (k2 : Int) - 1).toNat = nx - 1 + k2 - 1 := by omega
              obtain ⟨z, hz⟩ : ∃ z, z = Y.getD k2 0 := ⟨_, rfl⟩
              have c1 : w6.cell? ⟨gy, k2, none⟩ = some (.int .u8 z) := by rw [hz]; exact HY.out k2 (by omega)
              have c2 : w6.cell? ⟨gr, nx - 1 + k2 - 1, none⟩ = some (.int .u8 z) := by rw [hz, ← cut_y hX.out hY.out hR.out hXl.out k2 hk2]; exact HR.out _ (by omega)
              clear hz e3
              go_wp2_with fail
              go_quiet (fail)
              go_wp2
              go_roundw
              case rel => exact ⟨k2 + 1, _, by omega, by omega, by go_num, rfl⟩
              case measure => simp [intOf]; omega
            · have hge2 : ¬ (k2 : Int) < (m : Int) := by omega
              go_wp2
              go_ret
              exact ⟨rfl, ⟨HB.out.os, HB.out.tape, HB.out.output, HB.out.size, HB.out.block⟩⟩

end Go.Proofs.Qxb6627711a
