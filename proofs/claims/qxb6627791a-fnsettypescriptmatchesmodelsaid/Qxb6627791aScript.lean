/-
  FnSetTypeScriptMatchesModel: the walk.
-/
import Derived.Test.Qxb6627791aOne
namespace Go.Proofs.Qxb6627791a
open Go.RowKit
open Go.Maps
set_option linter.unusedVariables false

theorem one_zero {w : World} {ga : Nat} {wr : World} {who : Nat → Nat × Nat} {N n : Nat} {ts : List Nat} {tb : List ByteArray} {ov : Value} {ot : List ByteArray} (h : Hid (N = n ∧ One w ga wr who n ts tb ov ot)) : Hid (One w ga wr who (N + 0) ts tb ov (ot ++ List.replicate 0 ByteArray.empty)) := by
  rw [List.replicate_zero, List.append_nil, h.out.1]
  exact h.out.2

theorem one_row {w : World} {ga : Nat} {wr : World} {who : Nat → Nat × Nat} {n m : Nat} {ts : List Nat} {tb : List ByteArray} {ov : Value} {ot : List ByteArray} (h : Hid (One w ga wr who n ts tb ov ot)) (hl : ot.length = m) : Hid (wr.ownsRow w.heap.size 9 1 ov m (cellsS ot)) := by
  have := h.out.2.2.2.1
  rw [cellsS_len, hl] at this
  exact this

set_option maxHeartbeats 4000000 in
set_option maxRecDepth 100000 in
theorem script_in (a0 a1 : Option Addr) (n0 n c0 c1 : Nat) (Z : List Nat) (L : List ByteArray) (w : World) (hn0 : n0 ≤ 4096) (hn : n ≤ 4096) (hA : RowA w a0 n0 Z) (hL : RowS w a1 n L) (hAs : StabA w.heap.size w a0 n0 Z) (hLs : StabS w.heap.size w a1 n L) :
    Calls Try.prog 3 #[.slice a0 n0 c0, .slice a1 n c1] w fun e w' => e = .returned (.bool true) ∧ Below w.heap.size w w' := by
  have cB := bytes5_any a0 n0 c0 a1 n c1 L w (by unfold maxLen; omega) (by unfold maxLen; omega) hL
  have HA : Hid (RowA w a0 n0 Z) := hA
  have HL : Hid (RowS w a1 n L) := hL
  have HAs : Hid (StabA w.heap.size w a0 n0 Z) := hAs
  have HLs : Hid (StabS w.heap.size w a1 n L) := hLs
  clear hA hL hAs hLs
  go_enter Try.func3, Try.ntmps3
  go_wp2_with fail
  refine cB.mono ?_
  clear cB
  rintro e wx ⟨hans, rfl⟩
  rcases hans with rfl | ⟨rfl, hall⟩
  · go_wp2
    go_ret
    exact ⟨rfl, Below.refl _ _⟩
  have HALL : Hid (∀ s ∈ L, s.size ≤ 1048576) := hall
  clear hall
  go_wp2_with fail
  go_loop [5, 6] (fun z i => ∃ (k m : Nat), k ≤ n ∧ i = .int .i64 k ∧ z = .int .i64 m ∧ m ≤ 1000000000000000) (fun _ i => n - (intOf i).toNat)
  case atStart => exact ⟨0, n0 + 16 * n, Nat.zero_le _, rfl, by go_num, by omega⟩
  case round =>
    obtain ⟨k, m, hk, rfl, rfl, hm⟩ := hrel
    by_cases hgo : k < n ∧ m ≤ 1048576
    · obtain ⟨hlt, hm2⟩ := hgo
      obtain ⟨b, off, rfl, hc⟩ := HL.out.2.2 (by omega)
      have hck := hc k hlt
      obtain ⟨s, hs⟩ : ∃ s, s = L.getD k ByteArray.empty := ⟨_, rfl⟩
      have hsl : s.size ≤ 1048576 := by rw [hs]; exact HALL.out _ (List.mem_of_getElem? (getS_some (by have := HL.out.1; omega)))
      rw [← hs] at hck
      have hlt' : (k : Int) < (n : Int) := by omega
      have hm2' : (m : Int) ≤ 1048576 := by omega
      clear hc hs
      go_wp2
      go_round
      case rel => exact ⟨k + 1, m + s.size, by omega, by go_num, by go_num, by omega⟩
      case measure => simp [intOf]; omega
    · by_cases hbig : 1048576 < m
      · have hb' : (1048576 : Int) < (m : Int) := by omega
        by_cases hkn : (k : Int) < (n : Int)
        all_goals
          go_wp2
          go_ret
          exact ⟨rfl, Below.refl _ _⟩
      have hb' : ¬ (1048576 : Int) < (m : Int) := by omega
      have hkn : ¬ (k : Int) < (n : Int) := by omega
      clear hgo hbig
      by_cases heq : n0 = n
      · subst heq
        have hne0 : ((n0 : Int) != (n0 : Int)) = false := by simp
        have hns : n0 = 0 ∨ 0 < n0 := by omega
        have HP : Hid (n0 = 0 ∨ 0 < n0) := hns
        by_cases hz : 0 < n0 ∧ Z.getD 0 0 = 0
        · obtain ⟨hp, hz0⟩ := hz
          obtain ⟨b, off, rfl, hc⟩ := HA.out.2.2 hp
          have hc0 := hc 0 hp
          rw [hz0, Nat.add_zero] at hc0
          have hp' : (0 : Int) < (n0 : Int) := by omega
          clear hc hz0
          go_wp2
          go_ret
          exact ⟨rfl, Below.refl _ _⟩
        · have hfirst : 0 < n0 → ∃ z, 0 < z ∧ z = Z.getD 0 0 ∧ ∃ b off, a0 = some ⟨b, off, none⟩ ∧ wx.cell? ⟨b, off, none⟩ = some (.int .u8 (z : Int)) := fun hp => by
            obtain ⟨b, off, e, hc⟩ := HA.out.2.2 hp
            exact ⟨Z.getD 0 0, by omega, rfl, b, off, e, hc 0 hp⟩
          have HZ : Hid (0 < n0 → Z.getD 0 0 ≠ 0) := fun hp e => hz ⟨hp, e⟩
          have hstep : (∃ z : Nat, ((z : Int) == 0) = false ∧ (0 : Int) < (n0 : Int) ∧ ∃ b off, a0 = some ⟨b, off, none⟩ ∧ wx.cell? ⟨b, off, none⟩ = some (.int .u8 (z : Int))) ∨ ¬ (0 : Int) < (n0 : Int) := by
            by_cases hp : 0 < n0
            · left
              obtain ⟨z, hz1, _, b0, off0, e0, hc0⟩ := hfirst hp
              exact ⟨z, by rw [beq_eq_false_iff_ne]; omega, by omega, b0, off0, e0, hc0⟩
            · right; omega
          clear hfirst hz hns
          have hk4 : n0 ≤ 4096 := hn
          rcases hstep with ⟨z, hzz, hp', b0, off0, rfl, hc0⟩ | hp'
          · obtain ⟨bL, offL, rfl, _⟩ := HL.out.2.2 (by omega)
            go_wp2_with fail
            clear hkn hb' hm hk
            refine (new_any wx.heap.size 10 z0 wx (Nat.le_refl _)).mono ?_
            rintro e w1 ⟨ga, who1, rfl, s1, t1, b1, _⟩
            have HT0 : Hid (One wx ga w1 who1 (NN Z 0) (TS Z L 0) (TB L 0) (.slice none 0 0) (OT Z L 0)) :=
              ⟨s1, t1.mono (fun x hx => ⟨hx.1, by have := hx.2; omega⟩), b1, Own.nil _ _ _ _ _⟩
            clear s1 t1 b1
            go_wp2_with fail
            go_loopw [8, 9, 10] (fun ov no i wr => ∃ (k N : Nat) (who' : Nat → Nat × Nat), k ≤ n0 ∧ i = .int .i64 k ∧ no = .int .i64 N ∧ N ≤ 1044480 ∧ Hid (N = NN Z k ∧ One wx ga wr who' (NN Z k) (TS Z L k) (TB L k) ov (OT Z L k))) (fun _ _ i _ => n0 - (intOf i).toNat)
            case atStart => exact ⟨0, 0, who1, Nat.zero_le _, rfl, rfl, by omega, rfl, HT0.out⟩
            case round =>
              clear HT0
              obtain ⟨k, N, who3, hk, rfl, rfl, hN, H3⟩ := hrel
              by_cases hlt : k < n0
              · obtain ⟨a, ha⟩ : ∃ a, a = Z.getD k 0 := ⟨_, rfl⟩
                obtain ⟨s, hs⟩ : ∃ s, s = L.getD k ByteArray.empty := ⟨_, rfl⟩
                have ha255 : a ≤ 255 := by rw [ha]; exact getZ_le HA.out.2.1 k
                have hsm : s.size ≤ maxLen := by rw [hs]; exact getS_le HL.out.2.1 k
                have hNk : N ≤ 255 * k := by rw [H3.out.1]; exact NN_le Z HA.out.2.1 k
                have HCA : Hid (∀ wy, Below wx.heap.size wx wy → wy.cell? ⟨b0, off0 + k, none⟩ = some (.int .u8 (a : Int))) := fun wy hy => by
                  obtain ⟨b', off', e', hc'⟩ := (HAs.out wy hy).2.2 (by omega)
                  cases e'
                  rw [ha]; exact hc' k hlt
                have HCL : Hid (∀ wy, Below wx.heap.size wx wy → wy.cell? ⟨bL, offL + k, none⟩ = some (.string s)) := fun wy hy => by
                  obtain ⟨b', off', e', hc'⟩ := (HLs.out wy hy).2.2 (by omega)
                  cases e'
                  rw [hs]; exact hc' k hlt
                have HNS : Hid (NN Z (k + 1) = N + a) := by rw [Hid, ha, H3.out.1]; rfl
                have HSS : Hid (s = L.getD k ByteArray.empty) := hs
                have HAA : Hid (a = Z.getD k 0) := ha
                have hlt' : (k : Int) < (n0 : Int) := by omega
                have HOL : Hid ((OT Z L k).length = N) := by rw [Hid, OT_len]; exact H3.out.1.symm
                have HTL : Hid ((TS Z L k).length ≤ N) := by rw [H3.out.1]; exact TS_le Z L k
                have HTBL : Hid ((TB L k).length ≤ 5000) := by have := TB_len L k (by have := HL.out.1; omega); rw [Hid]; omega
                have HNP : Hid (0 < N + a) := by rw [Hid, ← HNS.out]; exact NN_pos Z (HZ.out (by omega)) (k + 1) (by omega)
                obtain ⟨i9, hi, hz0, hz1, hz2⟩ := info_parts info9
                have HI := one_zero H3
                clear ha hs H3
                go_wp2_with fail
                go_loopw [8, 9, 11] (fun ov no j wy => ∃ (t : Nat) (who' : Nat → Nat × Nat), t ≤ a ∧ j = .int .i64 t ∧ no = .int .i64 ((N + t : Nat) : Int) ∧ Hid (One wx ga wy who' (N + t) (TS Z L k) (TB L k) ov (OT Z L k ++ List.replicate t ByteArray.empty))) (fun _ _ j _ => a - (intOf j).toNat)
                case atStart => exact ⟨0, who3, Nat.zero_le _, rfl, by go_num, HI⟩
                case round =>
                  clear HI
                  obtain ⟨t, who4, ht, rfl, rfl, H4⟩ := hrel
                  have hca := HCA.out wr H4.out.below
                  have hol : (OT Z L k ++ List.replicate t ByteArray.empty).length = N + t := by rw [List.length_append, List.length_replicate, HOL.out]
                  by_cases hta : t < a
                  · go_wp2_with fail
                    refine (one_push H4 (by omega) _).mono ?_
                    rintro e w5 ⟨rfl, who5, H5⟩
                    have hsz5 := H5.out.2.1.size
                    have HO5 := one_row H5 hol
                    clear H4 hca
                    go_wp2_with (at_builtin; go_must (refine wpList_append_at1 _ rfl _ _ 23 rfl wx.heap.size 9 i9 (.string ByteArray.empty) 16 Try.underlying23 hi hz0 hz1 hz2 rfl _ _ _ rfl (HO5.out.alloc _) ⟨w5.heap.size, 0, none⟩ (.string ByteArray.empty) rfl (cell_one_new w5 _ _) rfl (by omega) (by omega) (by simp; omega) ?_); intro g2 c2 w2 k1 k2 k3; have HK : Hid _ := And.intro k1 (And.intro k2 k3); clear k1 k2 k3)
                    have H6 : Hid (One wx ga w2 (mark who5 (w5.heap.size + 1) (25, 0)) (N + t + 1) (TS Z L k) (TB L k) (.slice (some ⟨g2, 0, none⟩) (N + t + 1) c2) (OT Z L k ++ List.replicate (t + 1) ByteArray.empty)) := by
                      obtain ⟨p1, p2, p3⟩ := own_push1 H5.out.2.2.2 (by rw [cellsS_len, hol]; exact HK.out.1) HK.out.2.1 HK.out.2.2
                      have e2 : cellsS (OT Z L k ++ List.replicate t ByteArray.empty) ++ [Value.string ByteArray.empty] = cellsS (OT Z L k ++ List.replicate (t + 1) ByteArray.empty) := by
                        rw [cellsS_snoc, List.replicate_succ', ← List.append_assoc]
                      rw [e2] at p1
                      exact H5.out.stepO p3 p2 p1
                    clear HK H5 HO5 hol
                    go_roundw
                    case rel => exact ⟨t + 1, _, by omega, by go_num, by go_num, H6⟩
                    case measure => simp [intOf]; omega
                  · obtain rfl : t = a := by omega
                    have hcl := HCL.out wr H4.out.below
                    go_wp2_with fail
                    refine (one_set H4 (by omega) HNP.out (Nat.le_trans HTL.out (by omega)) HTBL.out s hsm).mono ?_
                    rintro e w5 ⟨rfl, who5, H5⟩
                    clear H4 hca hcl
                    have hcl := HCL.out w5 H5.out.below
                    obtain ⟨gO, cO, rfl, hlo⟩ := H5.out.2.2.2.found (by rw [cellsS_len, hol]; exact HNP.out)
                    rw [cellsS_len, hol] at H5 hlo ⊢
                    have hcO : w5.cell? ⟨gO, N + t - 1, none⟩ = some (.string ((OT Z L k ++ List.replicate t ByteArray.empty).getD (N + t - 1) ByteArray.empty)) := by
                      have hp := HNP.out
                      rw [H5.out.2.2.2.cell (by rw [cellsS_len, hol]) (N + t - 1) (by omega), cellsS, List.getElem?_map, getS_some (by omega)]; rfl
                    have hfO : w5.frozen? ⟨gO, N + t - 1, none⟩ = false := H5.out.2.2.2.frozen (by rw [cellsS_len, hol]) _
                    have H6 : Hid (One wx ga (w5.setCell ⟨gO, N + t - 1, none⟩ (.string s)) who5 (N + t) (setTs (N + t) (TS Z L k) (idx s (tab (TB L k) s))) (tab (TB L k) s) (.slice (some ⟨gO, 0, none⟩) (N + t) cO) ((OT Z L k ++ List.replicate t ByteArray.empty).set (N + t - 1) s)) := by
                      obtain ⟨p1, p2⟩ := own_store H5.out.2.2.2 hol.symm (N + t - 1) s
                      exact H5.out.stepO (Same.refl _ _) p2 p1
                    have H8 : Hid (N + t = NN Z (k + 1) ∧ One wx ga (w5.setCell ⟨gO, N + t - 1, none⟩ (.string s)) who5 (NN Z (k + 1)) (TS Z L (k + 1)) (TB L (k + 1)) (.slice (some ⟨gO, 0, none⟩) (N + t) cO) (OT Z L (k + 1))) := by
                      refine ⟨HNS.out.symm, ?_⟩
                      have e2 : TB L (k + 1) = tab (TB L k) s := by rw [HSS.out]; rfl
                      have e3 : TS Z L (k + 1) = setTs (N + t) (TS Z L k) (idx s (tab (TB L k) s)) := by rw [← e2, ← HNS.out, HSS.out]; rfl
                      have e4 : OT Z L (k + 1) = (OT Z L k ++ List.replicate t ByteArray.empty).set (N + t - 1) s := by rw [← HNS.out, HSS.out, HAA.out]; rfl
                      rw [e2, e3, e4, HNS.out]
                      exact H6.out
                    have hNT : N + t ≤ 1044480 := by omega
                    have hidx : (N : Int) + (t : Int) - 1 = ((N + t - 1 : Nat) : Int) := by have := HNP.out; omega
                    have hix1 : (0 : Int) ≤ (N : Int) + (t : Int) - 1 := by have := HNP.out; omega
                    have hix2 : N + t - 1 < N + t := by have := HNP.out; omega
                    clear H6 H5 hol
                    go_wp2
                    go_roundw
                    case rel => exact ⟨k + 1, N + t, who5, by omega, by go_num, by go_num, by omega, H8⟩
                    case measure => simp [intOf]; omega
              · obtain ⟨hkn2, hge⟩ : k = n0 ∧ ¬ (k : Int) < (n0 : Int) := by omega
                subst hkn2
                have hszr := H3.out.2.2.1.size
                have hbel := H3.out.2.below
                have hTBl : (TB L k).length ≤ 5000 := by have := TB_len L k (by have := HL.out.1; omega); omega
                have HTN : Hid ((TS Z L k).length = N) := by rw [Hid, TS_eq]; exact H3.out.1.symm
                have hTSl : (TS Z L k).length ≤ 2000000 := by rw [HTN.out]; omega
                have HON : Hid ((OT Z L k).length = N) := by rw [Hid, OT_len]; exact H3.out.1.symm
                have HSZ : Hid (∀ s ∈ TB L k, s.size ≤ maxLen) := TB_sizes L HL.out.2.1 k (by have := HL.out.1; omega)
                have HSO : Hid (∀ s ∈ OT Z L k, s.size ≤ maxLen) := OT_sizes Z L HL.out.2.1 k
                obtain ⟨ao, co, rfl, _⟩ := H3.out.2.2.2.2.len0
                rw [cellsS_len, HON.out] at H3 ⊢
                go_wp2_with fail
                refine (distinct_any (B := wx.heap.size) (l := 30) (who := who3) _ k c1 L wr hn (fun w' h => HLs.out w' (hbel.trans h)) hszr (fun j hj => H3.out.2.1 j hj) (by decide)).mono ?_
                rintro e w5 ⟨aw, cw, rfl, who5, s5, t5, ow⟩
                have HA5 : Hid (Bld wx.heap.size w5 who5 10 ga (NN Z k) (TS Z L k) (TB L k)) := H3.out.2.2.2.1.turn t5 s5 (fun x hx hc => by have h1 := hx.2; rw [hc] at h1; omega)
                have HW5 : Hid (RowS w5 aw (TB L k).length (TB L k)) := ow.rowS rfl HSZ.out
                have HO5 : Hid (RowS w5 ao N (OT Z L k)) := (H3.out.2.2.2.2.turn t5 s5 (by show ¬ 25 = 30; omega)).rowS HON.out.symm HSO.out
                have HB5 : Hid (Below wx.heap.size wx w5) := hbel.trans (t5.below hszr (fun j hj => H3.out.2.1 j hj) (by omega))
                have HNN : Hid (N = NN Z k) := H3.out.1
                clear s5 t5 ow hbel hszr H3
                go_wp2_with fail
                refine (names_any w5 HA5.out).mono ?_
                rintro e wz ⟨xa, ca, rfl, hw, oA⟩
                obtain rfl := hw.symm
                have HOA : Hid (RowS w5 xa (TB L k).length (TB L k)) := oA.rowS rfl HSZ.out
                clear oA hw
                go_wp2_with fail
                refine (same_any xa aw (TB L k).length ca cw (TB L k) w5 (by omega) HOA.out HW5.out).mono ?_
                rintro e wz ⟨rfl, q1, rfl⟩
                go_wp2_with fail
                refine (numLen_any _ (HA5.out.drewN q1)).mono ?_
                rintro e wz ⟨rfl, rfl⟩
                go_wp2_with fail
                go_loop [14] (fun j => ∃ (t : Nat), t ≤ (TB L k).length ∧ j = .int .i64 t) (fun j => (TB L k).length - (intOf j).toNat)
                case atStart => exact ⟨0, Nat.zero_le _, rfl⟩
                case round =>
                  obtain ⟨t, ht, rfl⟩ := hrel
                  by_cases htN : t < (TB L k).length
                  · obtain ⟨x, hx⟩ : ∃ x, x = (TB L k).getD t ByteArray.empty := ⟨_, rfl⟩
                    have htx : (TB L k)[t]? = some x := by rw [hx]; exact getS_some htN
                    have c13 := number_any (w5.drewN q1) (HA5.out.drewN q1) t x htx (by rw [hx]; exact getS_le HSZ.out t)
                    obtain ⟨bW, offW, eW, hcW⟩ := HW5.out.2.2 (by omega)
                    have hcw : w5.cell? ⟨bW, offW + t, none⟩ = some (.string x) := by rw [hx]; exact hcW t htN
                    have htN' : (t : Int) < (((TB L k).length : Nat) : Int) := by omega
                    have ht5 : t ≤ 5000 := by omega
                    clear hx htx hcW
                    subst eW
                    go_wp2_with fail
                    refine c13.mono ?_
                    clear c13
                    rintro e wz ⟨rfl, rfl⟩
                    go_wp2
                    go_round
                    case rel => exact ⟨t + 1, by omega, by go_num⟩
                    case measure => simp [intOf]; omega
                  · have hgeN : ¬ (t : Int) < (((TB L k).length : Nat) : Int) := by omega
                    have c14 := addrsLen_any (w5.drewN q1) (HA5.out.drewN q1) (by rw [← HNN.out]; omega)
                    rw [← HNN.out] at c14
                    have c15 := typesLen_any (w5.drewN q1) (HA5.out.drewN q1) hTSl
                    rw [HTN.out] at c15
                    go_wp2_with fail
                    refine c14.mono ?_
                    clear c14
                    rintro e wz ⟨rfl, rfl⟩
                    go_wp2_with fail
                    refine c15.mono ?_
                    clear c15
                    rintro e wz ⟨rfl, rfl⟩
                    go_wp2_with fail
                    go_loopw [17] (fun j wr => ∃ (t q : Nat), t ≤ N ∧ j = .int .i64 t ∧ wr = w5.drewN q) (fun j _ => N - (intOf j).toNat)
                    case atStart => exact ⟨0, q1, Nat.zero_le _, rfl, rfl⟩
                    case round =>
                      obtain ⟨t2, q2, ht2, rfl, rfl⟩ := hrel
                      by_cases htN2 : t2 < N
                      · obtain ⟨tt, x, htt, htb, hto⟩ := typed Z L k t2 (by rw [← HNN.out]; exact htN2)
                        have httl := (List.getElem?_eq_some_iff.1 htb).1
                        have c16 := typeAt_bld (w5.drewN q2) (HA5.out.drewN q2) hTSl t2 tt htt
                        obtain ⟨bG, offG, eG, hcG⟩ := HOA.out.2.2 (by omega)
                        obtain ⟨bO, offO, eO, hcO⟩ := HO5.out.2.2 (by omega)
                        have hcg : w5.cell? ⟨bG, offG + tt, none⟩ = some (.string x) := by rw [hcG tt httl, List.getD_eq_getElem?_getD, htb]; rfl
                        have hco : w5.cell? ⟨bO, offO + t2, none⟩ = some (.string x) := by rw [hcO t2 htN2, List.getD_eq_getElem?_getD, hto]; rfl
                        have htN' : (t2 : Int) < (N : Int) := by omega
                        have hg1 : decide ((tt : Int) < 0) = false := by rw [decide_eq_false_iff_not]; omega
                        have hg2 : ¬ (((TB L k).length : Nat) : Int) ≤ (tt : Int) := by omega
                        have hg3 : (tt : Int) < (((TB L k).length : Nat) : Int) := by omega
                        have hg4 : decide ((((TB L k).length : Nat) : Int) ≤ (tt : Int)) = false := by rw [decide_eq_false_iff_not]; omega
                        have hg5 : decide ((TB L k).length ≤ tt) = false := by rw [decide_eq_false_iff_not]; omega
                        clear htt htb hto hcG hcO
                        subst eG eO
                        go_wp2_with fail
                        refine c16.mono ?_
                        clear c16
                        rintro e wz ⟨rfl, rfl⟩
                        go_wp2_with fail
                        go_quiet (fail)
                        go_wp2
                        go_roundw
                        case rel => exact ⟨t2 + 1, _, by omega, by go_num, rfl⟩
                        case measure => simp [intOf]; omega
                      · have hgeN2 : ¬ (t2 : Int) < (N : Int) := by omega
                        go_wp2
                        go_ret
                        exact ⟨rfl, below_draws HB5.out _⟩
          · go_wp2_with fail
            clear hkn hb' hm hk
            refine (new_any wx.heap.size 10 z0 wx (Nat.le_refl _)).mono ?_
            rintro e w1 ⟨ga, who1, rfl, s1, t1, b1, _⟩
            have HT0 : Hid (One wx ga w1 who1 (NN Z 0) (TS Z L 0) (TB L 0) (.slice none 0 0) (OT Z L 0)) :=
              ⟨s1, t1.mono (fun x hx => ⟨hx.1, by have := hx.2; omega⟩), b1, Own.nil _ _ _ _ _⟩
            clear s1 t1 b1
            go_wp2_with fail
            go_loopw [8, 9, 10] (fun ov no i wr => ∃ (k N : Nat) (who' : Nat → Nat × Nat), k ≤ n0 ∧ i = .int .i64 k ∧ no = .int .i64 N ∧ N ≤ 1044480 ∧ Hid (N = NN Z k ∧ One wx ga wr who' (NN Z k) (TS Z L k) (TB L k) ov (OT Z L k))) (fun _ _ i _ => n0 - (intOf i).toNat)
            case atStart => exact ⟨0, 0, who1, Nat.zero_le _, rfl, rfl, by omega, rfl, HT0.out⟩
            case round =>
              clear HT0
              obtain ⟨k, N, who3, hk, rfl, rfl, hN, H3⟩ := hrel
              by_cases hlt : k < n0
              · exact absurd hlt (by omega)
              · obtain ⟨hkn2, hge⟩ : k = n0 ∧ ¬ (k : Int) < (n0 : Int) := by omega
                subst hkn2
                have hszr := H3.out.2.2.1.size
                have hbel := H3.out.2.below
                have hTBl : (TB L k).length ≤ 5000 := by have := TB_len L k (by have := HL.out.1; omega); omega
                have HTN : Hid ((TS Z L k).length = N) := by rw [Hid, TS_eq]; exact H3.out.1.symm
                have hTSl : (TS Z L k).length ≤ 2000000 := by rw [HTN.out]; omega
                have HON : Hid ((OT Z L k).length = N) := by rw [Hid, OT_len]; exact H3.out.1.symm
                have HSZ : Hid (∀ s ∈ TB L k, s.size ≤ maxLen) := TB_sizes L HL.out.2.1 k (by have := HL.out.1; omega)
                have HSO : Hid (∀ s ∈ OT Z L k, s.size ≤ maxLen) := OT_sizes Z L HL.out.2.1 k
                obtain ⟨ao, co, rfl, _⟩ := H3.out.2.2.2.2.len0
                rw [cellsS_len, HON.out] at H3 ⊢
                go_wp2_with fail
                refine (distinct_any (B := wx.heap.size) (l := 30) (who := who3) _ k c1 L wr hn (fun w' h => HLs.out w' (hbel.trans h)) hszr (fun j hj => H3.out.2.1 j hj) (by decide)).mono ?_
                rintro e w5 ⟨aw, cw, rfl, who5, s5, t5, ow⟩
                have HA5 : Hid (Bld wx.heap.size w5 who5 10 ga (NN Z k) (TS Z L k) (TB L k)) := H3.out.2.2.2.1.turn t5 s5 (fun x hx hc => by have h1 := hx.2; rw [hc] at h1; omega)
                have HW5 : Hid (RowS w5 aw (TB L k).length (TB L k)) := ow.rowS rfl HSZ.out
                have HO5 : Hid (RowS w5 ao N (OT Z L k)) := (H3.out.2.2.2.2.turn t5 s5 (by show ¬ 25 = 30; omega)).rowS HON.out.symm HSO.out
                have HB5 : Hid (Below wx.heap.size wx w5) := hbel.trans (t5.below hszr (fun j hj => H3.out.2.1 j hj) (by omega))
                have HNN : Hid (N = NN Z k) := H3.out.1
                clear s5 t5 ow hbel hszr H3
                go_wp2_with fail
                refine (names_any w5 HA5.out).mono ?_
                rintro e wz ⟨xa, ca, rfl, hw, oA⟩
                obtain rfl := hw.symm
                have HOA : Hid (RowS w5 xa (TB L k).length (TB L k)) := oA.rowS rfl HSZ.out
                clear oA hw
                go_wp2_with fail
                refine (same_any xa aw (TB L k).length ca cw (TB L k) w5 (by omega) HOA.out HW5.out).mono ?_
                rintro e wz ⟨rfl, q1, rfl⟩
                go_wp2_with fail
                refine (numLen_any _ (HA5.out.drewN q1)).mono ?_
                rintro e wz ⟨rfl, rfl⟩
                go_wp2_with fail
                go_loop [14] (fun j => ∃ (t : Nat), t ≤ (TB L k).length ∧ j = .int .i64 t) (fun j => (TB L k).length - (intOf j).toNat)
                case atStart => exact ⟨0, Nat.zero_le _, rfl⟩
                case round =>
                  obtain ⟨t, ht, rfl⟩ := hrel
                  by_cases htN : t < (TB L k).length
                  · obtain ⟨x, hx⟩ : ∃ x, x = (TB L k).getD t ByteArray.empty := ⟨_, rfl⟩
                    have htx : (TB L k)[t]? = some x := by rw [hx]; exact getS_some htN
                    have c13 := number_any (w5.drewN q1) (HA5.out.drewN q1) t x htx (by rw [hx]; exact getS_le HSZ.out t)
                    obtain ⟨bW, offW, eW, hcW⟩ := HW5.out.2.2 (by omega)
                    have hcw : w5.cell? ⟨bW, offW + t, none⟩ = some (.string x) := by rw [hx]; exact hcW t htN
                    have htN' : (t : Int) < (((TB L k).length : Nat) : Int) := by omega
                    have ht5 : t ≤ 5000 := by omega
                    clear hx htx hcW
                    subst eW
                    go_wp2_with fail
                    refine c13.mono ?_
                    clear c13
                    rintro e wz ⟨rfl, rfl⟩
                    go_wp2
                    go_round
                    case rel => exact ⟨t + 1, by omega, by go_num⟩
                    case measure => simp [intOf]; omega
                  · have hgeN : ¬ (t : Int) < (((TB L k).length : Nat) : Int) := by omega
                    have c14 := addrsLen_any (w5.drewN q1) (HA5.out.drewN q1) (by rw [← HNN.out]; omega)
                    rw [← HNN.out] at c14
                    have c15 := typesLen_any (w5.drewN q1) (HA5.out.drewN q1) hTSl
                    rw [HTN.out] at c15
                    go_wp2_with fail
                    refine c14.mono ?_
                    clear c14
                    rintro e wz ⟨rfl, rfl⟩
                    go_wp2_with fail
                    refine c15.mono ?_
                    clear c15
                    rintro e wz ⟨rfl, rfl⟩
                    go_wp2_with fail
                    go_loopw [17] (fun j wr => ∃ (t q : Nat), t ≤ N ∧ j = .int .i64 t ∧ wr = w5.drewN q) (fun j _ => N - (intOf j).toNat)
                    case atStart => exact ⟨0, q1, Nat.zero_le _, rfl, rfl⟩
                    case round =>
                      obtain ⟨t2, q2, ht2, rfl, rfl⟩ := hrel
                      by_cases htN2 : t2 < N
                      · obtain ⟨tt, x, htt, htb, hto⟩ := typed Z L k t2 (by rw [← HNN.out]; exact htN2)
                        have httl := (List.getElem?_eq_some_iff.1 htb).1
                        have c16 := typeAt_bld (w5.drewN q2) (HA5.out.drewN q2) hTSl t2 tt htt
                        obtain ⟨bG, offG, eG, hcG⟩ := HOA.out.2.2 (by omega)
                        obtain ⟨bO, offO, eO, hcO⟩ := HO5.out.2.2 (by omega)
                        have hcg : w5.cell? ⟨bG, offG + tt, none⟩ = some (.string x) := by rw [hcG tt httl, List.getD_eq_getElem?_getD, htb]; rfl
                        have hco : w5.cell? ⟨bO, offO + t2, none⟩ = some (.string x) := by rw [hcO t2 htN2, List.getD_eq_getElem?_getD, hto]; rfl
                        have htN' : (t2 : Int) < (N : Int) := by omega
                        have hg1 : decide ((tt : Int) < 0) = false := by rw [decide_eq_false_iff_not]; omega
                        have hg2 : ¬ (((TB L k).length : Nat) : Int) ≤ (tt : Int) := by omega
                        have hg3 : (tt : Int) < (((TB L k).length : Nat) : Int) := by omega
                        have hg4 : decide ((((TB L k).length : Nat) : Int) ≤ (tt : Int)) = false := by rw [decide_eq_false_iff_not]; omega
                        have hg5 : decide ((TB L k).length ≤ tt) = false := by rw [decide_eq_false_iff_not]; omega
                        clear htt htb hto hcG hcO
                        subst eG eO
                        go_wp2_with fail
                        refine c16.mono ?_
                        clear c16
                        rintro e wz ⟨rfl, rfl⟩
                        go_wp2_with fail
                        go_quiet (fail)
                        go_wp2
                        go_roundw
                        case rel => exact ⟨t2 + 1, _, by omega, by go_num, rfl⟩
                        case measure => simp [intOf]; omega
                      · have hgeN2 : ¬ (t2 : Int) < (N : Int) := by omega
                        go_wp2
                        go_ret
                        exact ⟨rfl, below_draws HB5.out _⟩
      · have hne0 : ((n0 : Int) != (n : Int)) = true := by simp; omega
        go_wp2
        go_ret
        exact ⟨rfl, Below.refl _ _⟩
set_option maxHeartbeats 2000000 in
set_option maxRecDepth 100000 in
theorem script_walk (a0 a1 : Option Addr) (n0 n c0 c1 : Nat) (Z : List Nat) (L : List ByteArray) (w : World) (hn0 : n0 ≤ maxLen) (hn : n ≤ maxLen) (hA : RowA w a0 n0 Z) (hL : RowS w a1 n L) :
    Calls Try.prog 3 #[.slice a0 n0 c0, .slice a1 n c1] w fun e w' => e = .returned (.bool true) ∧ Below w.heap.size w w' := by
  have cB := bytes5_any a0 n0 c0 a1 n c1 L w hn0 hn hL
  unfold maxLen at hn0 hn
  by_cases h1 : 4096 < n0
  · clear hA hL
    go_enter Try.func3, Try.ntmps3
    go_wp2_with fail
    refine cB.mono ?_
    clear cB
    rintro e wx ⟨hans, rfl⟩
    rcases hans with rfl | ⟨rfl, hall⟩
    all_goals
      try clear hall
      go_wp2
      go_ret
      exact ⟨rfl, Below.refl _ _⟩
  by_cases h2 : 4096 < n
  · clear hA hL
    go_enter Try.func3, Try.ntmps3
    go_wp2_with fail
    refine cB.mono ?_
    clear cB
    rintro e wx ⟨hans, rfl⟩
    rcases hans with rfl | ⟨rfl, hall⟩
    all_goals
      try clear hall
      go_wp2
      go_ret
      exact ⟨rfl, Below.refl _ _⟩
  exact script_in a0 a1 n0 n c0 c1 Z L w (by omega) (by omega) hA hL hA.stab hL.stab

end Go.Proofs.Qxb6627791a
