/-
  FnSetTypeTwiceIsOnce: the walk.
-/
import Derived.Test.Qxb6627791aTwo
namespace Go.Proofs.Qxb6627791a
open Go.RowKit
open Go.Maps
set_option linter.unusedVariables false

theorem below_draws {B : Nat} {a w : World} (h : Below B a w) (q : Nat) : Below B a (w.drewN q) := ⟨h.os, h.tape, h.output, h.size, h.block⟩

set_option maxHeartbeats 4000000 in
set_option maxRecDepth 100000 in
theorem twice_in (a0 a1 : Option Addr) (n0 n c0 c1 : Nat) (Z : List Nat) (L : List ByteArray) (w : World) (hn0 : n0 ≤ 4096) (hn : n ≤ 4096) (hA : RowA w a0 n0 Z) (hL : RowS w a1 n L) (hAs : StabA w.heap.size w a0 n0 Z) (hLs : StabS w.heap.size w a1 n L) :
    Calls Try.prog 4 #[.slice a0 n0 c0, .slice a1 n c1] w fun e w' => e = .returned (.bool true) ∧ Below w.heap.size w w' := by
  have cB := bytes17_any a0 n0 c0 a1 n c1 L w (by unfold maxLen; omega) (by unfold maxLen; omega) hL
  have HA : Hid (RowA w a0 n0 Z) := hA
  have HL : Hid (RowS w a1 n L) := hL
  have HAs : Hid (StabA w.heap.size w a0 n0 Z) := hAs
  have HLs : Hid (StabS w.heap.size w a1 n L) := hLs
  clear hA hL hAs hLs
  go_enter Try.func4, Try.ntmps4
  go_wp2_with fail
  refine cB.mono ?_
  clear cB
  rintro e wx ⟨hans, rfl⟩
  rcases hans with rfl | ⟨rfl, hall⟩
  · go_wp2
    go_ret
    exact ⟨rfl, Below.refl _ _⟩
  have HALL : Hid (∀ s ∈ L, s.size ≤ 1048576) := hall
  clear hall
  go_wp2_with fail
  go_loop [5, 6] (fun z i => ∃ (k m : Nat), k ≤ n ∧ i = .int .i64 k ∧ z = .int .i64 m ∧ m ≤ 1000000000000000) (fun _ i => n - (intOf i).toNat)
  case atStart => exact ⟨0, n0 + 16 * n, Nat.zero_le _, rfl, by go_num, by omega⟩
  case round =>
    obtain ⟨k, m, hk, rfl, rfl, hm⟩ := hrel
    by_cases hgo : k < n ∧ m ≤ 1048576
    · obtain ⟨hlt, hm2⟩ := hgo
      obtain ⟨b, off, rfl, hc⟩ := HL.out.2.2 (by omega)
      have hck := hc k hlt
      obtain ⟨s, hs⟩ : ∃ s, s = L.getD k ByteArray.empty := ⟨_, rfl⟩
      have hsl : s.size ≤ 1048576 := by rw [hs]; exact HALL.out _ (List.mem_of_getElem? (getS_some (by have := HL.out.1; omega)))
      rw [← hs] at hck
      have hlt' : (k : Int) < (n : Int) := by omega
      have hm2' : (m : Int) ≤ 1048576 := by omega
      clear hc hs
      go_wp2
      go_round
      case rel => exact ⟨k + 1, m + s.size, by omega, by go_num, by go_num, by omega⟩
      case measure => simp [intOf]; omega
    · by_cases hbig : 1048576 < m
      · have hb' : (1048576 : Int) < (m : Int) := by omega
        by_cases hkn : (k : Int) < (n : Int)
        all_goals
          go_wp2
          go_ret
          exact ⟨rfl, Below.refl _ _⟩
      have hb' : ¬ (1048576 : Int) < (m : Int) := by omega
      have hkn : ¬ (k : Int) < (n : Int) := by omega
      clear hgo hbig
      by_cases heq : n0 = n
      · subst heq
        have hne0 : ((n0 : Int) != (n0 : Int)) = false := by simp
        have hns : n0 = 0 ∨ 0 < n0 := by omega
        have HP : Hid (n0 = 0 ∨ 0 < n0) := hns
        by_cases hz : 0 < n0 ∧ Z.getD 0 0 = 0
        · obtain ⟨hp, hz0⟩ := hz
          obtain ⟨b, off, rfl, hc⟩ := HA.out.2.2 hp
          have hc0 := hc 0 hp
          rw [hz0, Nat.add_zero] at hc0
          have hp' : (0 : Int) < (n0 : Int) := by omega
          clear hc hz0
          go_wp2
          go_ret
          exact ⟨rfl, Below.refl _ _⟩
        · have hfirst : 0 < n0 → ∃ z, 0 < z ∧ z = Z.getD 0 0 ∧ ∃ b off, a0 = some ⟨b, off, none⟩ ∧ wx.cell? ⟨b, off, none⟩ = some (.int .u8 (z : Int)) := fun hp => by
            obtain ⟨b, off, e, hc⟩ := HA.out.2.2 hp
            exact ⟨Z.getD 0 0, by omega, rfl, b, off, e, hc 0 hp⟩
          have HZ : Hid (0 < n0 → Z.getD 0 0 ≠ 0) := fun hp e => hz ⟨hp, e⟩
          have hstep : (∃ z : Nat, ((z : Int) == 0) = false ∧ (0 : Int) < (n0 : Int) ∧ ∃ b off, a0 = some ⟨b, off, none⟩ ∧ wx.cell? ⟨b, off, none⟩ = some (.int .u8 (z : Int))) ∨ ¬ (0 : Int) < (n0 : Int) := by
            by_cases hp : 0 < n0
            · left
              obtain ⟨z, hz1, _, b0, off0, e0, hc0⟩ := hfirst hp
              exact ⟨z, by rw [beq_eq_false_iff_ne]; omega, by omega, b0, off0, e0, hc0⟩
            · right; omega
          clear hfirst hz hns
          have hk4 : n0 ≤ 4096 := hn
          rcases hstep with ⟨z, hzz, hp', b0, off0, rfl, hc0⟩ | hp'
          · obtain ⟨bL, offL, rfl, _⟩ := HL.out.2.2 (by omega)
            go_wp2_with fail
            clear hkn hb' hm hk
            refine (new_any wx.heap.size 10 z0 wx (Nat.le_refl _)).mono ?_
            rintro e w1 ⟨ga, who1, rfl, s1, t1, b1, _⟩
            go_wp2_with fail
            refine (new_any wx.heap.size 20 who1 w1 t1.size).mono ?_
            rintro e w2 ⟨gd, who2, rfl, s2, t2, b2, _⟩
            have HT0 : Hid (Two wx ga gd w2 who2 (NN Z 0) (NN Z 0) (TS Z L 0) (TS Z L 0) (TB L 0) (TB L 0)) :=
              ⟨s1.trans s2 t1.size, (t1.mono (fun x hx => ⟨hx.1, by have := hx.2; omega⟩)).trans (t2.mono (fun x hx => ⟨by have := hx.1; omega, hx.2⟩)) s1, b1.turn t2 s2 (fun x hx hc => by have h1 := hx.2; have h2 := hc.1; omega), b2⟩
            clear s1 t1 b1 s2 t2 b2
            go_wp2_with fail
            go_loopw [9, 10] (fun no i wr => ∃ (k N : Nat) (who' : Nat → Nat × Nat), k ≤ n0 ∧ i = .int .i64 k ∧ no = .int .i64 N ∧ N ≤ 1044480 ∧ Hid (N = NN Z k ∧ Two wx ga gd wr who' (NN Z k) (NN Z k) (TS Z L k) (TS Z L k) (TB L k) (TB L k))) (fun _ i _ => n0 - (intOf i).toNat)
            case atStart => exact ⟨0, 0, who2, Nat.zero_le _, rfl, rfl, by omega, rfl, HT0.out⟩
            case round =>
              clear HT0
              obtain ⟨k, N, who3, hk, rfl, rfl, hN, H3⟩ := hrel
              by_cases hlt : k < n0
              · obtain ⟨a, ha⟩ : ∃ a, a = Z.getD k 0 := ⟨_, rfl⟩
                obtain ⟨s, hs⟩ : ∃ s, s = L.getD k ByteArray.empty := ⟨_, rfl⟩
                have ha255 : a ≤ 255 := by rw [ha]; exact getZ_le HA.out.2.1 k
                have hsm : s.size ≤ maxLen := by rw [hs]; exact getS_le HL.out.2.1 k
                have hNk : N ≤ 255 * k := by rw [H3.out.1]; exact NN_le Z HA.out.2.1 k
                have HCA : Hid (∀ wy, Below wx.heap.size wx wy → wy.cell? ⟨b0, off0 + k, none⟩ = some (.int .u8 (a : Int))) := fun wy hy => by
                  obtain ⟨b', off', e', hc'⟩ := (HAs.out wy hy).2.2 (by omega)
                  cases e'
                  rw [ha]; exact hc' k hlt
                have HCL : Hid (∀ wy, Below wx.heap.size wx wy → wy.cell? ⟨bL, offL + k, none⟩ = some (.string s)) := fun wy hy => by
                  obtain ⟨b', off', e', hc'⟩ := (HLs.out wy hy).2.2 (by omega)
                  cases e'
                  rw [hs]; exact hc' k hlt
                have HNS : Hid (NN Z (k + 1) = N + a) := by rw [Hid, ha, H3.out.1]; rfl
                have HSS : Hid (s = L.getD k ByteArray.empty) := hs
                have hlt' : (k : Int) < (n0 : Int) := by omega
                have HI : Hid (Two wx ga gd wr who3 (N + 0) (N + 0) (TS Z L k) (TS Z L k) (TB L k) (TB L k)) := by
                  have := H3.out.2
                  rw [← H3.out.1] at this
                  exact this
                have HTL : Hid ((TS Z L k).length ≤ N) := by rw [H3.out.1]; exact TS_le Z L k
                have HTBL : Hid ((TB L k).length ≤ 5000) := by have := TB_len L k (by have := HL.out.1; omega); rw [Hid]; omega
                have HNP : Hid (0 < N + a) := by rw [Hid, ← HNS.out]; exact NN_pos Z (HZ.out (by omega)) (k + 1) (by omega)
                clear ha hs H3
                go_wp2_with fail
                go_loopw [9, 11] (fun no j wy => ∃ (t : Nat) (who' : Nat → Nat × Nat), t ≤ a ∧ j = .int .i64 t ∧ no = .int .i64 ((N + t : Nat) : Int) ∧ Hid (Two wx ga gd wy who' (N + t) (N + t) (TS Z L k) (TS Z L k) (TB L k) (TB L k))) (fun _ j _ => a - (intOf j).toNat)
                case atStart => exact ⟨0, who3, Nat.zero_le _, rfl, by go_num, HI⟩
                case round =>
                  clear HI
                  obtain ⟨t, who4, ht, rfl, rfl, H4⟩ := hrel
                  have hca := HCA.out wr H4.out.below
                  by_cases hta : t < a
                  · go_wp2_with fail
                    refine (pushA H4 (by omega) _).mono ?_
                    rintro e w5 ⟨rfl, who5, H5⟩
                    clear H4 hca
                    go_wp2_with fail
                    refine (pushD H5 (by omega) _).mono ?_
                    rintro e w6 ⟨rfl, who6, H6⟩
                    clear H5
                    go_wp2
                    go_roundw
                    case rel => exact ⟨t + 1, who6, by omega, by go_num, by go_num, H6⟩
                    case measure => simp [intOf]; omega
                  · obtain rfl : t = a := by omega
                    have hcl := HCL.out wr H4.out.below
                    go_wp2_with fail
                    refine (setA H4 (by omega) HNP.out (Nat.le_trans HTL.out (by omega)) HTBL.out s hsm).mono ?_
                    rintro e w5 ⟨rfl, who5, H5⟩
                    clear H4 hca hcl
                    have hcl := HCL.out w5 H5.out.below
                    go_wp2_with fail
                    refine (setD H5 (by omega) HNP.out (Nat.le_trans HTL.out (by omega)) HTBL.out s hsm).mono ?_
                    rintro e w6 ⟨rfl, who6, H6⟩
                    clear H5 hcl
                    have hcl := HCL.out w6 H6.out.below
                    have htl2 : (setTs (N + t) (TS Z L k) (idx s (tab (TB L k) s))).length ≤ N + t := by rw [setTs_len _ _ _ (Nat.le_trans HTL.out (by omega))]; exact Nat.le_refl _
                    have htb2 : (tab (TB L k) s).length ≤ 5000 := by
                      have := TB_len L (k + 1) (by have := HL.out.1; omega)
                      have e2 : TB L (k + 1) = tab (TB L k) s := by rw [HSS.out]; rfl
                      rw [e2] at this
                      omega
                    go_wp2_with fail
                    refine (setD H6 (by omega) HNP.out htl2 htb2 s hsm).mono ?_
                    clear htl2 htb2
                    rintro e w7 ⟨rfl, who7, H7⟩
                    rw [tab_twice, setTs_twice _ _ _ (Nat.le_trans HTL.out (by omega))] at H7
                    clear H6 hcl
                    have H8 : Hid (N + t = NN Z (k + 1) ∧ Two wx ga gd w7 who7 (NN Z (k + 1)) (NN Z (k + 1)) (TS Z L (k + 1)) (TS Z L (k + 1)) (TB L (k + 1)) (TB L (k + 1))) := by
                      refine ⟨HNS.out.symm, ?_⟩
                      have e2 : TB L (k + 1) = tab (TB L k) s := by rw [HSS.out]; rfl
                      have e3 : TS Z L (k + 1) = setTs (N + t) (TS Z L k) (idx s (tab (TB L k) s)) := by rw [← e2, ← HNS.out, HSS.out]; rfl
                      rw [e2, e3, HNS.out]
                      exact H7.out
                    clear H7
                    go_wp2
                    go_roundw
                    case rel => exact ⟨k + 1, N + t, who7, by omega, by go_num, by go_num, by omega, H8⟩
                    case measure => simp [intOf]; omega
              · obtain ⟨hkn2, hge⟩ : k = n0 ∧ ¬ (k : Int) < (n0 : Int) := by omega
                subst hkn2
                have hszr := H3.out.2.2.1.size
                have hbel := H3.out.2.below
                have hTBl : (TB L k).length ≤ 5000 := by have := TB_len L k (by have := HL.out.1; omega); omega
                have hTSl : (TS Z L k).length ≤ 2000000 := by
                  have := TS_le Z L k
                  have := H3.out.1
                  omega
                have HSZ : Hid (∀ s ∈ TB L k, s.size ≤ maxLen) := TB_sizes L HL.out.2.1 k (by have := HL.out.1; omega)
                have HTN : Hid ((TS Z L k).length = N) := by
                  rw [Hid, H3.out.1]
                  cases k with
                  | zero => rfl
                  | succ k => exact TS_len Z L k
                go_wp2_with fail
                refine (distinct_any (B := wx.heap.size) (l := 30) (who := who3) _ k c1 L wr hn (fun w' h => HLs.out w' (hbel.trans h)) hszr (fun j hj => H3.out.2.1 j hj) (by decide)).mono ?_
                rintro e w5 ⟨aw, cw, rfl, who5, s5, t5, ow⟩
                have HA5 : Hid (Bld wx.heap.size w5 who5 10 ga (NN Z k) (TS Z L k) (TB L k)) := H3.out.2.2.2.1.turn t5 s5 (fun x hx hc => by have h1 := hx.2; rw [hc] at h1; omega)
                have HD5 : Hid (Bld wx.heap.size w5 who5 20 gd (NN Z k) (TS Z L k) (TB L k)) := H3.out.2.2.2.2.turn t5 s5 (fun x hx hc => by have h1 := hx.2; rw [hc] at h1; omega)
                have HW5 : Hid (Own wx.heap.size w5 who5 (30, 0) 9 (.slice aw (TB L k).length cw) (cellsS (TB L k))) := ow
                have HB5 : Hid (Below wx.heap.size wx w5) := hbel.trans (t5.below hszr (fun j hj => H3.out.2.1 j hj) (by omega))
                have HNN : Hid (N = NN Z k) := H3.out.1
                clear s5 t5 ow hbel hszr H3
                go_wp2_with fail
                refine (names_any w5 HA5.out).mono ?_
                rintro e wz ⟨xa, ca, rfl, hw, oA⟩
                obtain rfl := hw.symm
                have HOA : Hid (RowS w5 xa (TB L k).length (TB L k)) := oA.rowS rfl HSZ.out
                clear oA hw
                go_wp2_with fail
                refine (names_any w5 HD5.out).mono ?_
                rintro e wz ⟨xd, cd, rfl, hw, oD⟩
                obtain rfl := hw.symm
                have HOD : Hid (RowS w5 xd (TB L k).length (TB L k)) := oD.rowS rfl HSZ.out
                clear oD hw
                go_wp2_with fail
                refine (same_any xa aw (TB L k).length ca cw (TB L k) w5 (by omega) HOA.out (HW5.out.rowS rfl HSZ.out)).mono ?_
                rintro e wz ⟨rfl, q1, rfl⟩
                go_wp2_with fail
                refine (same_any xd aw (TB L k).length cd cw (TB L k) (w5.drewN q1) (by omega) (HOD.out.drewN q1) ((HW5.out.rowS rfl HSZ.out).drewN q1)).mono ?_
                rintro e wz ⟨rfl, q2, rfl⟩
                go_wp2_with fail
                refine (numLen_any _ (HD5.out.drewN (q1 + q2))).mono ?_
                rintro e wz ⟨rfl, rfl⟩
                have c15a := typesLen_any (w5.drewN (q1 + q2)) (HA5.out.drewN _) hTSl
                rw [HTN.out] at c15a
                go_wp2_with fail
                refine c15a.mono ?_
                clear c15a
                rintro e wz ⟨rfl, rfl⟩
                have c15d := typesLen_any (w5.drewN (q1 + q2)) (HD5.out.drewN _) hTSl
                rw [HTN.out] at c15d
                go_wp2_with fail
                refine c15d.mono ?_
                clear c15d
                rintro e wz ⟨rfl, rfl⟩
                go_wp2_with fail
                go_loop [15] (fun j => ∃ (t : Nat), t ≤ N ∧ j = .int .i64 t) (fun j => N - (intOf j).toNat)
                case atStart => exact ⟨0, Nat.zero_le _, rfl⟩
                case round =>
                  obtain ⟨t, ht, rfl⟩ := hrel
                  by_cases htN : t < N
                  · obtain ⟨tt, htt⟩ : ∃ tt, (TS Z L k)[t]? = some tt := ⟨_, List.getElem?_eq_getElem (by have := HTN.out; omega)⟩
                    have c16a := typeAt_bld (w5.drewN (q1 + q2)) (HA5.out.drewN _) hTSl t tt htt
                    have c16d := typeAt_bld (w5.drewN (q1 + q2)) (HD5.out.drewN _) hTSl t tt htt
                    clear htt
                    have htN' : (t : Int) < (N : Int) := by omega
                    go_wp2_with fail
                    refine c16a.mono ?_
                    clear c16a
                    rintro e wz ⟨rfl, rfl⟩
                    go_wp2_with fail
                    refine c16d.mono ?_
                    clear c16d
                    rintro e wz ⟨rfl, rfl⟩
                    go_wp2
                    go_round
                    case rel => exact ⟨t + 1, by omega, by go_num⟩
                    case measure => simp [intOf]; omega
                  · have hgeN : ¬ (t : Int) < (N : Int) := by omega
                    by_cases hNp : 0 < N
                    · have hNp' : (0 : Int) < (N : Int) := by omega
                      obtain ⟨k', rfl⟩ : ∃ k', k = k' + 1 := ⟨k - 1, by
                        have : k ≠ 0 := fun e => by have := HNN.out; rw [e] at this; simp [NN] at this; omega
                        omega⟩
                      obtain ⟨tt, htt1, htt2⟩ := TS_last Z L k' (by have := HNN.out; omega)
                      rw [← HNN.out] at htt1
                      have httl := (List.getElem?_eq_some_iff.1 htt2).1
                      have c16 := typeAt_bld (w5.drewN (q1 + q2)) (HD5.out.drewN _) hTSl (N - 1) tt htt1
                      rw [show ((N - 1 : Nat) : Int) = (N : Int) - 1 by omega] at c16
                      obtain ⟨s, hs⟩ : ∃ s, s = L.getD k' ByteArray.empty := ⟨_, rfl⟩
                      obtain ⟨bD, offD, rfl, hcD⟩ := HOD.out.2.2 (by omega)
                      have hcd : w5.cell? ⟨bD, offD + tt, none⟩ = some (.string s) := by
                        rw [hcD tt httl, List.getD_eq_getElem?_getD, htt2, hs]; rfl
                      have hcl : w5.cell? ⟨bL, offL + k', none⟩ = some (.string s) := by
                        obtain ⟨b', off', e', hc'⟩ := (HLs.out w5 HB5.out).2.2 (by omega)
                        cases e'
                        rw [hs]; exact hc' k' (by omega)
                      have hg1 : decide ((tt : Int) < 0) = false := by rw [decide_eq_false_iff_not]; omega
                      have hg2 : ¬ (((TB L (k' + 1)).length : Nat) : Int) ≤ (tt : Int) := by omega
                      have hg3 : (tt : Int) < (((TB L (k' + 1)).length : Nat) : Int) := by omega
                      have hg4 : decide ((((TB L (k' + 1)).length : Nat) : Int) ≤ (tt : Int)) = false := by rw [decide_eq_false_iff_not]; omega
                      have hg5 : decide ((TB L (k' + 1)).length ≤ tt) = false := by rw [decide_eq_false_iff_not]; omega
                      clear htt1 htt2 hcD hs
                      go_wp2_with fail
                      refine c16.mono ?_
                      clear c16
                      rintro e wz ⟨rfl, rfl⟩
                      go_wp2_with fail
                      go_quiet (fail)
                      go_wp2
                      go_ret
                      exact ⟨rfl, below_draws (below_draws HB5.out _) _⟩
                    · have hNp' : ¬ (0 : Int) < (N : Int) := by omega
                      go_wp2
                      go_ret
                      exact ⟨rfl, below_draws HB5.out _⟩
          · go_wp2_with fail
            clear hkn hb' hm hk
            refine (new_any wx.heap.size 10 z0 wx (Nat.le_refl _)).mono ?_
            rintro e w1 ⟨ga, who1, rfl, s1, t1, b1, _⟩
            go_wp2_with fail
            refine (new_any wx.heap.size 20 who1 w1 t1.size).mono ?_
            rintro e w2 ⟨gd, who2, rfl, s2, t2, b2, _⟩
            have HT0 : Hid (Two wx ga gd w2 who2 (NN Z 0) (NN Z 0) (TS Z L 0) (TS Z L 0) (TB L 0) (TB L 0)) :=
              ⟨s1.trans s2 t1.size, (t1.mono (fun x hx => ⟨hx.1, by have := hx.2; omega⟩)).trans (t2.mono (fun x hx => ⟨by have := hx.1; omega, hx.2⟩)) s1, b1.turn t2 s2 (fun x hx hc => by have h1 := hx.2; have h2 := hc.1; omega), b2⟩
            clear s1 t1 b1 s2 t2 b2
            go_wp2_with fail
            go_loopw [9, 10] (fun no i wr => ∃ (k N : Nat) (who' : Nat → Nat × Nat), k ≤ n0 ∧ i = .int .i64 k ∧ no = .int .i64 N ∧ N ≤ 1044480 ∧ Hid (N = NN Z k ∧ Two wx ga gd wr who' (NN Z k) (NN Z k) (TS Z L k) (TS Z L k) (TB L k) (TB L k))) (fun _ i _ => n0 - (intOf i).toNat)
            case atStart => exact ⟨0, 0, who2, Nat.zero_le _, rfl, rfl, by omega, rfl, HT0.out⟩
            case round =>
              clear HT0
              obtain ⟨k, N, who3, hk, rfl, rfl, hN, H3⟩ := hrel
              by_cases hlt : k < n0
              · exact absurd hlt (by omega)
              · obtain ⟨hkn2, hge⟩ : k = n0 ∧ ¬ (k : Int) < (n0 : Int) := by omega
                subst hkn2
                have hszr := H3.out.2.2.1.size
                have hbel := H3.out.2.below
                have hTBl : (TB L k).length ≤ 5000 := by have := TB_len L k (by have := HL.out.1; omega); omega
                have hTSl : (TS Z L k).length ≤ 2000000 := by
                  have := TS_le Z L k
                  have := H3.out.1
                  omega
                have HSZ : Hid (∀ s ∈ TB L k, s.size ≤ maxLen) := TB_sizes L HL.out.2.1 k (by have := HL.out.1; omega)
                have HTN : Hid ((TS Z L k).length = N) := by
                  rw [Hid, H3.out.1]
                  cases k with
                  | zero => rfl
                  | succ k => exact TS_len Z L k
                go_wp2_with fail
                refine (distinct_any (B := wx.heap.size) (l := 30) (who := who3) _ k c1 L wr hn (fun w' h => HLs.out w' (hbel.trans h)) hszr (fun j hj => H3.out.2.1 j hj) (by decide)).mono ?_
                rintro e w5 ⟨aw, cw, rfl, who5, s5, t5, ow⟩
                have HA5 : Hid (Bld wx.heap.size w5 who5 10 ga (NN Z k) (TS Z L k) (TB L k)) := H3.out.2.2.2.1.turn t5 s5 (fun x hx hc => by have h1 := hx.2; rw [hc] at h1; omega)
                have HD5 : Hid (Bld wx.heap.size w5 who5 20 gd (NN Z k) (TS Z L k) (TB L k)) := H3.out.2.2.2.2.turn t5 s5 (fun x hx hc => by have h1 := hx.2; rw [hc] at h1; omega)
                have HW5 : Hid (Own wx.heap.size w5 who5 (30, 0) 9 (.slice aw (TB L k).length cw) (cellsS (TB L k))) := ow
                have HB5 : Hid (Below wx.heap.size wx w5) := hbel.trans (t5.below hszr (fun j hj => H3.out.2.1 j hj) (by omega))
                have HNN : Hid (N = NN Z k) := H3.out.1
                clear s5 t5 ow hbel hszr H3
                go_wp2_with fail
                refine (names_any w5 HA5.out).mono ?_
                rintro e wz ⟨xa, ca, rfl, hw, oA⟩
                obtain rfl := hw.symm
                have HOA : Hid (RowS w5 xa (TB L k).length (TB L k)) := oA.rowS rfl HSZ.out
                clear oA hw
                go_wp2_with fail
                refine (names_any w5 HD5.out).mono ?_
                rintro e wz ⟨xd, cd, rfl, hw, oD⟩
                obtain rfl := hw.symm
                have HOD : Hid (RowS w5 xd (TB L k).length (TB L k)) := oD.rowS rfl HSZ.out
                clear oD hw
                go_wp2_with fail
                refine (same_any xa aw (TB L k).length ca cw (TB L k) w5 (by omega) HOA.out (HW5.out.rowS rfl HSZ.out)).mono ?_
                rintro e wz ⟨rfl, q1, rfl⟩
                go_wp2_with fail
                refine (same_any xd aw (TB L k).length cd cw (TB L k) (w5.drewN q1) (by omega) (HOD.out.drewN q1) ((HW5.out.rowS rfl HSZ.out).drewN q1)).mono ?_
                rintro e wz ⟨rfl, q2, rfl⟩
                go_wp2_with fail
                refine (numLen_any _ (HD5.out.drewN (q1 + q2))).mono ?_
                rintro e wz ⟨rfl, rfl⟩
                have c15a := typesLen_any (w5.drewN (q1 + q2)) (HA5.out.drewN _) hTSl
                rw [HTN.out] at c15a
                go_wp2_with fail
                refine c15a.mono ?_
                clear c15a
                rintro e wz ⟨rfl, rfl⟩
                have c15d := typesLen_any (w5.drewN (q1 + q2)) (HD5.out.drewN _) hTSl
                rw [HTN.out] at c15d
                go_wp2_with fail
                refine c15d.mono ?_
                clear c15d
                rintro e wz ⟨rfl, rfl⟩
                go_wp2_with fail
                go_loop [15] (fun j => ∃ (t : Nat), t ≤ N ∧ j = .int .i64 t) (fun j => N - (intOf j).toNat)
                case atStart => exact ⟨0, Nat.zero_le _, rfl⟩
                case round =>
                  obtain ⟨t, ht, rfl⟩ := hrel
                  by_cases htN : t < N
                  · obtain ⟨tt, htt⟩ : ∃ tt, (TS Z L k)[t]? = some tt := ⟨_, List.getElem?_eq_getElem (by have := HTN.out; omega)⟩
                    have c16a := typeAt_bld (w5.drewN (q1 + q2)) (HA5.out.drewN _) hTSl t tt htt
                    have c16d := typeAt_bld (w5.drewN (q1 + q2)) (HD5.out.drewN _) hTSl t tt htt
                    clear htt
                    have htN' : (t : Int) < (N : Int) := by omega
                    go_wp2_with fail
                    refine c16a.mono ?_
                    clear c16a
                    rintro e wz ⟨rfl, rfl⟩
                    go_wp2_with fail
                    refine c16d.mono ?_
                    clear c16d
                    rintro e wz ⟨rfl, rfl⟩
                    go_wp2
                    go_round
                    case rel => exact ⟨t + 1, by omega, by go_num⟩
                    case measure => simp [intOf]; omega
                  · have hgeN : ¬ (t : Int) < (N : Int) := by omega
                    have hNp' : ¬ (0 : Int) < (N : Int) := by
                      have := HNN.out
                      have e : k = 0 := by omega
                      rw [e] at this
                      simp [NN] at this
                      omega
                    go_wp2
                    go_ret
                    exact ⟨rfl, below_draws HB5.out _⟩
      · have hne0 : ((n0 : Int) != (n : Int)) = true := by simp; omega
        go_wp2
        go_ret
        exact ⟨rfl, Below.refl _ _⟩
theorem cell_lt {w : World} {b o : Nat} {v : Value} (h : w.cell? ⟨b, o, none⟩ = some v) : b < w.heap.size := by
  rcases Nat.lt_or_ge b w.heap.size with h1 | h1
  · exact h1
  · simp [World.cell?, Array.getElem?_eq_none h1] at h

theorem RowA.stab {w : World} {ao : Option Addr} {n : Nat} {Z : List Nat} (h : RowA w ao n Z) : StabA w.heap.size w ao n Z := by
  intro w' hb
  refine ⟨h.1, h.2.1, fun h0 => ?_⟩
  obtain ⟨b, off, e, hc⟩ := h.2.2 h0
  exact ⟨b, off, e, fun j hj => by rw [hb.cell (cell_lt (hc j hj))]; exact hc j hj⟩

theorem RowS.stab {w : World} {ao : Option Addr} {n : Nat} {L : List ByteArray} (h : RowS w ao n L) : StabS w.heap.size w ao n L := by
  intro w' hb
  refine ⟨h.1, h.2.1, fun h0 => ?_⟩
  obtain ⟨b, off, e, hc⟩ := h.2.2 h0
  exact ⟨b, off, e, fun j hj => by rw [hb.cell (cell_lt (hc j hj))]; exact hc j hj⟩

set_option maxHeartbeats 2000000 in
set_option maxRecDepth 100000 in
theorem twice_walk (a0 a1 : Option Addr) (n0 n c0 c1 : Nat) (Z : List Nat) (L : List ByteArray) (w : World) (hn0 : n0 ≤ maxLen) (hn : n ≤ maxLen) (hA : RowA w a0 n0 Z) (hL : RowS w a1 n L) :
    Calls Try.prog 4 #[.slice a0 n0 c0, .slice a1 n c1] w fun e w' => e = .returned (.bool true) ∧ Below w.heap.size w w' := by
  have cB := bytes17_any a0 n0 c0 a1 n c1 L w hn0 hn hL
  unfold maxLen at hn0 hn
  by_cases h1 : 4096 < n0
  · clear hA hL
    go_enter Try.func4, Try.ntmps4
    go_wp2_with fail
    refine cB.mono ?_
    clear cB
    rintro e wx ⟨hans, rfl⟩
    rcases hans with rfl | ⟨rfl, hall⟩
    all_goals
      try clear hall
      go_wp2
      go_ret
      exact ⟨rfl, Below.refl _ _⟩
  by_cases h2 : 4096 < n
  · clear hA hL
    go_enter Try.func4, Try.ntmps4
    go_wp2_with fail
    refine cB.mono ?_
    clear cB
    rintro e wx ⟨hans, rfl⟩
    rcases hans with rfl | ⟨rfl, hall⟩
    all_goals
      try clear hall
      go_wp2
      go_ret
      exact ⟨rfl, Below.refl _ _⟩
  exact twice_in a0 a1 n0 n c0 c1 Z L w (by omega) (by omega) hA hL hA.stab hL.stab

end Go.Proofs.Qxb6627791a
