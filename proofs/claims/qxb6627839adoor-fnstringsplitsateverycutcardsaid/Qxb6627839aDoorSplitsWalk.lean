/-
  FnStringSplitsAtEveryCut: the walk.
-/
import Derived.Test.Qxb6627839aDoorCopy
namespace Go.Proofs.Qxb6627839aDoor
open Go.RowKit
set_option linter.unusedVariables false

theorem cut_eq {L : List Nat} {k n : Nat} (h : k < n) (h0 : ¬ k = 0) (hl : L.length = n) : vt L = vt (L.take k) ++ (ByteArray.mk #[46]).data.toList ++ vt (L.drop k) := by
  have e := vt_append (L.take k) (L.drop k) (by intro e; have := congrArg List.length e; rw [List.length_take, List.length_nil] at this; omega) (by intro e; have := congrArg List.length e; rw [List.length_drop, List.length_nil] at this; omega)
  rw [List.take_append_drop] at e
  rw [e]; simp

set_option maxHeartbeats 4000000 in
set_option maxRecDepth 100000 in
theorem cut_some (a : Addr) (n cap kk : Nat) (L : List Nat) (w : World) (hrow : Row w (some a) n L) (hn : n ≤ 65536) (hk : kk ≤ n) (htab : TabB w.heap.size w) :
    Calls Tryd.prog 3 #[.slice (some a) n cap, .int .i64 (kk : Int)] w fun e w' => e = .returned (.bool true) ∧ Below w.heap.size w w' := by
  have qN : ∀ (w : World) (a : Option Addr) (n c n' c' : Nat), (binOp .neq 22 (.slice a n c) (.slice none n' c')).run Tryd.prog w = .ok (.bool (!a.isNone)) w := fun w a n c n' c' => by
    have := run_neq_slice_nil_any w 22 27 a n c n' c' Tryd.underlying22
    exact this
  obtain ⟨i0, hi, hz0, hz1, hz2⟩ := info_parts info27
  have cB := bytes5_any (some a) n cap (kk : Int) w (by unfold maxLen; omega)
  have hkn : (kk : Int) ≤ (n : Int) := by omega
  have HR : Hid (Row w (some a) n L) := hrow
  have hLl : (cellsOf L).length = n := by simp [cellsOf, hrow.1]
  have h1c : ∀ u ∈ cellsOf L, u.oneCell' = true := by intro u hu; simp only [cellsOf, List.mem_map] at hu; obtain ⟨z, _, rfl⟩ := hu; rfl
  clear hrow
  go_enter Tryd.func3, Tryd.ntmps3
  go_wp2_with (first
    | (go_at_call 5; refine cB.mono ?_; rintro e wx ⟨⟨q, rfl⟩, rfl⟩)
    | (at_make; go_must (refine wpList_make_full _ rfl _ _ 22 rfl _ 27 i0 (.int .u64 0) 1 Tryd.underlying22 hi hz0 hz1 _ _ _ _ n rfl rfl rfl rfl (by rw [hz2]; omega) (by unfold maxLen; omega) (Nat.le_refl _) ?_); intro w1 hown1 hgrow1; obtain ⟨HG1, hb1, HSR⟩ := clone_facts HR.out hown1 hgrow1; clear hown1 hgrow1)
    | (have _t := HG1; refine wpList_copy_splice rfl (.tmp 35) (.tmp 36) 22 22 rfl 27 Tryd.underlying22 size27 _ _ _ _ _ _ rfl rfl _ 0 (List.replicate n (Value.int .u64 0)) 27 HG1.out (cellsOf L) (by rw [hLl]; exact (Nat.min_self n).symm) (fun _ => ⟨rfl, a, rfl, HSR.out⟩) (by rw [hLl, List.length_replicate]; omega) h1c _ _ hb1 (Nat.le_refl _) ?_; intro w2 HG2 hb2; clear HG1 HSR hb1))
  · go_ret
    exact ⟨rfl, Below.refl _ _⟩
  clear cB qN _t hi hz0 hz1 hz2 h1c hLl
  have hrow2 : Row w2 (some ⟨wx.heap.size, 0, none⟩) n L := cloned_row HG2 HR.out.1 HR.out.2.1
  have ht2 : TabB w2.heap.size w2 := fun w' h => htab w' (hb2.trans (h.mono hb2.size))
  clear HG2
  refine (vec_any _ n n L w2 hn hrow2 ht2).mono ?_
  rintro e w3 ⟨S1, rfl, HS1, hs1, hb3⟩
  have hrow3 := hrow2.below hb3
  have ht3 : TabB w3.heap.size w3 := fun w' h => ht2 w' (hb3.trans (h.mono hb3.size))
  clear hrow2 ht2
  by_cases hk0 : kk = 0
  · subst hk0
    go_wp2_with fail
    refine (vec_any _ 0 _ [] w3 (by omega) (row_none (ao := some ⟨wx.heap.size, 0, none⟩)) ht3).mono ?_
    rintro e w4 ⟨S2, rfl, HS2, hs2, hb4⟩
    have hrow4 := hrow3.below hb4
    have ht4 : TabB w4.heap.size w4 := fun w' h => ht3 w' (hb4.trans (h.mono hb4.size))
    clear hrow3 ht3
    go_wp2_with fail
    refine (vec_any _ n _ L w4 (by omega) hrow4 ht4).mono ?_
    rintro e w5 ⟨S3, rfl, HS3, hs3, hb5⟩
    have HR5 : Hid (Row w5 (some ⟨wx.heap.size, 0, none⟩) n L) := hrow4.below hb5
    have g3 := hb2.trans (hb3.mono hb2.size)
    have g4 := g3.trans (hb4.mono g3.size)
    have HB5 : Hid (Below wx.heap.size wx w5) := g4.trans (hb5.mono g4.size)
    clear hrow4 ht4 hb2 hb3 hb4 hb5 g3 g4 htab
    have hE : (S1.toList == (S3).toList) = true := same_text (by rw [HS1.out, HS3.out])
    clear HS2 HS3
    by_cases hn0 : 0 < n
    · have hn0' : (0 : Int) < (n : Int) := by omega
      go_wp2_with fail
      go_loop [11, 12] (fun t i => ∃ (k m : Nat), k ≤ n ∧ i = .int .i64 k ∧ t = .int .i64 m ∧ m ≤ 21 * 65536 ∧ Hid (m = n - 1 + sumD (L.take k))) (fun _ i => n - (intOf i).toNat)
      case atStart => exact ⟨0, n - 1, Nat.zero_le _, rfl, by go_num, by omega, rfl⟩
      case round =>
        obtain ⟨k, m, hk1, rfl, rfl, hm, HM⟩ := hrel
        by_cases hlt : k < n
        · obtain ⟨b0, o0, e0, hc⟩ := HR5.out.2.2 hn0
          cases e0
          obtain ⟨z, hz⟩ : ∃ z, z = L.getD k 0 := ⟨_, rfl⟩
          have hz64 : z < 18446744073709551616 := by rw [hz]; exact getD_lt HR5.out.2.1 k
          have hcell : w5.cell? ⟨wx.heap.size, k, none⟩ = some (.int .u64 (z : Int)) := by
            have := hc k hlt
            rwa [Nat.zero_add, ← hz] at this
          have hd20 := nd20 z hz64
          have hsl := sumD_le L HR5.out.2.1
          have HM2 : Hid (m + (Lib.decDigits z).length = n - 1 + sumD (L.take (k + 1))) := by
            rw [Hid, sumD_snoc L k (by rw [HR5.out.1]; exact hlt), ← hz, HM.out]; omega
          have hm2 : m + (Lib.decDigits z).length ≤ 21 * 65536 := by
            have e1 := sumD_le (L.take (k + 1)) (fun x hx => HR5.out.2.1 x (List.mem_of_mem_take hx))
            rw [List.length_take, HR5.out.1] at e1
            have e2 := HM2.out
            omega
          have hlt' : (k : Int) < (n : Int) := by omega
          clear hz hc hsl
          go_wp2_with (go_at_call 7; refine (declen_any z hz64 _).mono ?_; rintro e wq ⟨rfl, rfl⟩)
          go_round
          case rel => exact ⟨k + 1, _, by omega, by go_num, by go_num, hm2, HM2⟩
          case measure => simp [intOf]; omega
        · have hge : ¬ (k : Int) < (n : Int) := by omega
          have hms : m = S1.size := by
            have e1 := HM.out
            rw [List.take_of_length_le (by rw [HR5.out.1]; omega)] at e1
            rw [e1, ← size_list, HS1.out, vt_length, HR5.out.1]
          subst hms
          clear HM hk1 hge
          go_wp2_with fail
          go_loop [13, 14] (fun t i => ∃ (j c : Nat), j ≤ S1.size ∧ i = .int .i64 j ∧ t = .int .i64 c ∧ c ≤ j ∧ Hid (c = (S1.data.toList.take j).count 46)) (fun _ i => S1.size - (intOf i).toNat)
          case atStart => exact ⟨0, 0, Nat.zero_le _, rfl, rfl, Nat.le_refl _, rfl⟩
          case round =>
            obtain ⟨j, c, hj, rfl, rfl, hc, HC⟩ := hrel
            by_cases hjl : j < S1.size
            · have hby := vt_bytes L S1[j] (by rw [← HS1.out]; exact List.mem_of_getElem? (byte_at j hjl))
              have htk := bytes_take j hjl
              have h255 := UInt8.toNat_lt S1[j]
              rcases hby with hby | ⟨hb1, hb2⟩
              · have hb46 : (S1[j].toNat : Int) = 46 := by rw [hby]; rfl
                have HC2 : Hid (c + 1 = (S1.data.toList.take (j + 1)).count 46) := by rw [Hid, htk, List.count_append, hby, HC.out]; rfl
                clear hby htk HC
                go_wp2
                go_round
                case rel => exact ⟨j + 1, c + 1, by omega, by go_num, by go_num, by omega, HC2⟩
                case measure => simp [intOf]; omega
              · have hb46 : ((S1[j].toNat : Int) == 46) = false := by simp; omega
                have hlo : (48 : Int) ≤ (S1[j].toNat : Int) := by omega
                have hhi : (S1[j].toNat : Int) ≤ 57 := by omega
                have HC2 : Hid (c = (S1.data.toList.take (j + 1)).count 46) := by
                  rw [Hid, htk, List.count_append, HC.out, List.count_singleton]
                  have : (S1[j] == 46) = false := by rw [beq_eq_false_iff_ne]; intro e; rw [e] at hb1; simp at hb1
                  simp [this]
                clear htk HC hb1 hb2
                go_wp2
                go_round
                case rel => exact ⟨j + 1, c, by omega, by go_num, by go_num, by omega, HC2⟩
                case measure => simp [intOf]; omega
            · have hge2 : ¬ (j : Int) < (S1.size : Int) := by omega
              have hcn : ((c : Int) == (n : Int) - 1) = true := by
                have e1 := HC.out
                rw [List.take_of_length_le (by rw [size_list]; omega), HS1.out, vt_count, HR5.out.1] at e1
                simp; omega
              clear HC
              go_wp2
              go_ret
              exact ⟨rfl, HB5.out⟩
    · have hS0 : S1.size = 0 := by omega
      obtain rfl : n = 0 := by omega
      clear hn0 hs1
      go_wp2_with fail
      refine wp_loop_rounds 1 ?_
      rw [rounds_succ]
      go_wp2_with fail
      refine wp_loop_rounds 1 ?_
      rw [rounds_succ]
      go_wp2
      go_ret
      exact ⟨rfl, HB5.out⟩
  · have hk0' : ((kk : Int) == 0) = false := by simp; omega
    by_cases hkn2 : kk = n
    · subst hkn2
      go_wp2_with fail
      refine (vec_any _ kk _ L w3 (by omega) hrow3 ht3).mono ?_
      rintro e w4 ⟨S2, rfl, HS2, hs2, hb4⟩
      have hrow4 := hrow3.below hb4
      have ht4 : TabB w4.heap.size w4 := fun w' h => ht3 w' (hb4.trans (h.mono hb4.size))
      clear hrow3 ht3
      go_wp2_with fail
      refine (vec_any _ 0 _ [] w4 (by omega) (row_none (ao := some ⟨wx.heap.size, 0, none⟩)) ht4).mono ?_
      rintro e w5 ⟨S3, rfl, HS3, hs3, hb5⟩
      have HR5 : Hid (Row w5 (some ⟨wx.heap.size, 0, none⟩) kk L) := hrow4.below hb5
      have g3 := hb2.trans (hb3.mono hb2.size)
      have g4 := g3.trans (hb4.mono g3.size)
      have HB5 : Hid (Below wx.heap.size wx w5) := g4.trans (hb5.mono g4.size)
      clear hrow4 ht4 hb2 hb3 hb4 hb5 g3 g4 htab
      have hE : (S1.toList == (S2).toList) = true := same_text (by rw [HS1.out, HS2.out])
      clear HS2 HS3
      have hn0 : 0 < kk := by omega
      have hn0' : (0 : Int) < (kk : Int) := by omega
      go_wp2_with fail
      go_loop [11, 12] (fun t i => ∃ (k m : Nat), k ≤ kk ∧ i = .int .i64 k ∧ t = .int .i64 m ∧ m ≤ 21 * 65536 ∧ Hid (m = kk - 1 + sumD (L.take k))) (fun _ i => kk - (intOf i).toNat)
      case atStart => exact ⟨0, kk - 1, Nat.zero_le _, rfl, by go_num, by omega, rfl⟩
      case round =>
        obtain ⟨k, m, hk1, rfl, rfl, hm, HM⟩ := hrel
        by_cases hlt : k < kk
        · obtain ⟨b0, o0, e0, hc⟩ := HR5.out.2.2 hn0
          cases e0
          obtain ⟨z, hz⟩ : ∃ z, z = L.getD k 0 := ⟨_, rfl⟩
          have hz64 : z < 18446744073709551616 := by rw [hz]; exact getD_lt HR5.out.2.1 k
          have hcell : w5.cell? ⟨wx.heap.size, k, none⟩ = some (.int .u64 (z : Int)) := by
            have := hc k hlt
            rwa [Nat.zero_add, ← hz] at this
          have hd20 := nd20 z hz64
          have hsl := sumD_le L HR5.out.2.1
          have HM2 : Hid (m + (Lib.decDigits z).length = kk - 1 + sumD (L.take (k + 1))) := by
            rw [Hid, sumD_snoc L k (by rw [HR5.out.1]; exact hlt), ← hz, HM.out]; omega
          have hm2 : m + (Lib.decDigits z).length ≤ 21 * 65536 := by
            have e1 := sumD_le (L.take (k + 1)) (fun x hx => HR5.out.2.1 x (List.mem_of_mem_take hx))
            rw [List.length_take, HR5.out.1] at e1
            have e2 := HM2.out
            omega
          have hlt' : (k : Int) < (kk : Int) := by omega
          clear hz hc hsl
          go_wp2_with (go_at_call 7; refine (declen_any z hz64 _).mono ?_; rintro e wq ⟨rfl, rfl⟩)
          go_round
          case rel => exact ⟨k + 1, _, by omega, by go_num, by go_num, hm2, HM2⟩
          case measure => simp [intOf]; omega
        · have hge : ¬ (k : Int) < (kk : Int) := by omega
          have hms : m = S1.size := by
            have e1 := HM.out
            rw [List.take_of_length_le (by rw [HR5.out.1]; omega)] at e1
            rw [e1, ← size_list, HS1.out, vt_length, HR5.out.1]
          subst hms
          clear HM hk1 hge
          go_wp2_with fail
          go_loop [13, 14] (fun t i => ∃ (j c : Nat), j ≤ S1.size ∧ i = .int .i64 j ∧ t = .int .i64 c ∧ c ≤ j ∧ Hid (c = (S1.data.toList.take j).count 46)) (fun _ i => S1.size - (intOf i).toNat)
          case atStart => exact ⟨0, 0, Nat.zero_le _, rfl, rfl, Nat.le_refl _, rfl⟩
          case round =>
            obtain ⟨j, c, hj, rfl, rfl, hc, HC⟩ := hrel
            by_cases hjl : j < S1.size
            · have hby := vt_bytes L S1[j] (by rw [← HS1.out]; exact List.mem_of_getElem? (byte_at j hjl))
              have htk := bytes_take j hjl
              have h255 := UInt8.toNat_lt S1[j]
              rcases hby with hby | ⟨hb1, hb2⟩
              · have hb46 : (S1[j].toNat : Int) = 46 := by rw [hby]; rfl
                have HC2 : Hid (c + 1 = (S1.data.toList.take (j + 1)).count 46) := by rw [Hid, htk, List.count_append, hby, HC.out]; rfl
                clear hby htk HC
                go_wp2
                go_round
                case rel => exact ⟨j + 1, c + 1, by omega, by go_num, by go_num, by omega, HC2⟩
                case measure => simp [intOf]; omega
              · have hb46 : ((S1[j].toNat : Int) == 46) = false := by simp; omega
                have hlo : (48 : Int) ≤ (S1[j].toNat : Int) := by omega
                have hhi : (S1[j].toNat : Int) ≤ 57 := by omega
                have HC2 : Hid (c = (S1.data.toList.take (j + 1)).count 46) := by
                  rw [Hid, htk, List.count_append, HC.out, List.count_singleton]
                  have : (S1[j] == 46) = false := by rw [beq_eq_false_iff_ne]; intro e; rw [e] at hb1; simp at hb1
                  simp [this]
                clear htk HC hb1 hb2
                go_wp2
                go_round
                case rel => exact ⟨j + 1, c, by omega, by go_num, by go_num, by omega, HC2⟩
                case measure => simp [intOf]; omega
            · have hge2 : ¬ (j : Int) < (S1.size : Int) := by omega
              have hcn : ((c : Int) == (kk : Int) - 1) = true := by
                have e1 := HC.out
                rw [List.take_of_length_le (by rw [size_list]; omega), HS1.out, vt_count, HR5.out.1] at e1
                simp; omega
              clear HC
              go_wp2
              go_ret
              exact ⟨rfl, HB5.out⟩
    · have hkn3 : ((kk : Int) == (n : Int)) = false := by simp; omega
      have hklt : kk < n := by omega
      go_wp2_with fail
      refine (vec_any _ kk _ (L.take kk) w3 (by omega) (row_take hrow3 hk) ht3).mono ?_
      rintro e w4 ⟨S2, rfl, HS2, hs2, hb4⟩
      have hrow4 := hrow3.below hb4
      have ht4 : TabB w4.heap.size w4 := fun w' h => ht3 w' (hb4.trans (h.mono hb4.size))
      clear hrow3 ht3
      go_wp2_with fail
      refine (vec_any _ (n - kk) _ (L.drop kk) w4 (by omega) (row_drop hrow4 hk) ht4).mono ?_
      rintro e w5 ⟨S3, rfl, HS3, hs3, hb5⟩
      have HR5 : Hid (Row w5 (some ⟨wx.heap.size, 0, none⟩) n L) := hrow4.below hb5
      have g3 := hb2.trans (hb3.mono hb2.size)
      have g4 := g3.trans (hb4.mono g3.size)
      have HB5 : Hid (Below wx.heap.size wx w5) := g4.trans (hb5.mono g4.size)
      clear hrow4 ht4 hb2 hb3 hb4 hb5 g3 g4 htab
      have hE : (S1.toList == (S2 ++ ByteArray.mk #[46] ++ S3).toList) = true := same_text (by rw [cat_data, cat_data, HS1.out, HS2.out, HS3.out]; exact cut_eq hklt hk0 HR.out.1)
      clear HS2 HS3
      have hn0 : 0 < n := by omega
      have hn0' : (0 : Int) < (n : Int) := by omega
      go_wp2_with fail
      go_loop [11, 12] (fun t i => ∃ (k m : Nat), k ≤ n ∧ i = .int .i64 k ∧ t = .int .i64 m ∧ m ≤ 21 * 65536 ∧ Hid (m = n - 1 + sumD (L.take k))) (fun _ i => n - (intOf i).toNat)
      case atStart => exact ⟨0, n - 1, Nat.zero_le _, rfl, by go_num, by omega, rfl⟩
      case round =>
        obtain ⟨k, m, hk1, rfl, rfl, hm, HM⟩ := hrel
        by_cases hlt : k < n
        · obtain ⟨b0, o0, e0, hc⟩ := HR5.out.2.2 hn0
          cases e0
          obtain ⟨z, hz⟩ : ∃ z, z = L.getD k 0 := ⟨_, rfl⟩
          have hz64 : z < 18446744073709551616 := by rw [hz]; exact getD_lt HR5.out.2.1 k
          have hcell : w5.cell? ⟨wx.heap.size, k, none⟩ = some (.int .u64 (z : Int)) := by
            have := hc k hlt
            rwa [Nat.zero_add, ← hz] at this
          have hd20 := nd20 z hz64
          have hsl := sumD_le L HR5.out.2.1
          have HM2 : Hid (m + (Lib.decDigits z).length = n - 1 + sumD (L.take (k + 1))) := by
            rw [Hid, sumD_snoc L k (by rw [HR5.out.1]; exact hlt), ← hz, HM.out]; omega
          have hm2 : m + (Lib.decDigits z).length ≤ 21 * 65536 := by
            have e1 := sumD_le (L.take (k + 1)) (fun x hx => HR5.out.2.1 x (List.mem_of_mem_take hx))
            rw [List.length_take, HR5.out.1] at e1
            have e2 := HM2.out
            omega
          have hlt' : (k : Int) < (n : Int) := by omega
          clear hz hc hsl
          go_wp2_with (go_at_call 7; refine (declen_any z hz64 _).mono ?_; rintro e wq ⟨rfl, rfl⟩)
          go_round
          case rel => exact ⟨k + 1, _, by omega, by go_num, by go_num, hm2, HM2⟩
          case measure => simp [intOf]; omega
        · have hge : ¬ (k : Int) < (n : Int) := by omega
          have hms : m = S1.size := by
            have e1 := HM.out
            rw [List.take_of_length_le (by rw [HR5.out.1]; omega)] at e1
            rw [e1, ← size_list, HS1.out, vt_length, HR5.out.1]
          subst hms
          clear HM hk1 hge
          go_wp2_with fail
          go_loop [13, 14] (fun t i => ∃ (j c : Nat), j ≤ S1.size ∧ i = .int .i64 j ∧ t = .int .i64 c ∧ c ≤ j ∧ Hid (c = (S1.data.toList.take j).count 46)) (fun _ i => S1.size - (intOf i).toNat)
          case atStart => exact ⟨0, 0, Nat.zero_le _, rfl, rfl, Nat.le_refl _, rfl⟩
          case round =>
            obtain ⟨j, c, hj, rfl, rfl, hc, HC⟩ := hrel
            by_cases hjl : j < S1.size
            · have hby := vt_bytes L S1[j] (by rw [← HS1.out]; exact List.mem_of_getElem? (byte_at j hjl))
              have htk := bytes_take j hjl
              have h255 := UInt8.toNat_lt S1[j]
              rcases hby with hby | ⟨hb1, hb2⟩
              · have hb46 : (S1[j].toNat : Int) = 46 := by rw [hby]; rfl
                have HC2 : Hid (c + 1 = (S1.data.toList.take (j + 1)).count 46) := by rw [Hid, htk, List.count_append, hby, HC.out]; rfl
                clear hby htk HC
                go_wp2
                go_round
                case rel => exact ⟨j + 1, c + 1, by omega, by go_num, by go_num, by omega, HC2⟩
                case measure => simp [intOf]; omega
              · have hb46 : ((S1[j].toNat : Int) == 46) = false := by simp; omega
                have hlo : (48 : Int) ≤ (S1[j].toNat : Int) := by omega
                have hhi : (S1[j].toNat : Int) ≤ 57 := by omega
                have HC2 : Hid (c = (S1.data.toList.take (j + 1)).count 46) := by
                  rw [Hid, htk, List.count_append, HC.out, List.count_singleton]
                  have : (S1[j] == 46) = false := by rw [beq_eq_false_iff_ne]; intro e; rw [e] at hb1; simp at hb1
                  simp [this]
                clear htk HC hb1 hb2
                go_wp2
                go_round
                case rel => exact ⟨j + 1, c, by omega, by go_num, by go_num, by omega, HC2⟩
                case measure => simp [intOf]; omega
            · have hge2 : ¬ (j : Int) < (S1.size : Int) := by omega
              have hcn : ((c : Int) == (n : Int) - 1) = true := by
                have e1 := HC.out
                rw [List.take_of_length_le (by rw [size_list]; omega), HS1.out, vt_count, HR5.out.1] at e1
                simp; omega
              clear HC
              go_wp2
              go_ret
              exact ⟨rfl, HB5.out⟩

set_option maxHeartbeats 2000000 in
set_option maxRecDepth 100000 in
theorem cut_nil (w : World) (htab : TabB w.heap.size w) :
    Calls Tryd.prog 3 #[.slice none 0 0, .int .i64 0] w fun e w' => e = .returned (.bool true) ∧ Below w.heap.size w w' := by
  have qN : ∀ (w : World) (a : Option Addr) (n c n' c' : Nat), (binOp .neq 22 (.slice a n c) (.slice none n' c')).run Tryd.prog w = .ok (.bool (!a.isNone)) w := fun w a n c n' c' => run_neq_slice_nil_any w 22 27 a n c n' c' Tryd.underlying22
  have cB := bytes5_any none 0 0 0 w (by unfold maxLen; omega)
  go_enter Tryd.func3, Tryd.ntmps3
  go_wp2_with (go_at_call 5; refine cB.mono ?_; rintro e wx ⟨⟨q, rfl⟩, rfl⟩)
  · go_ret
    exact ⟨rfl, Below.refl _ _⟩
  clear cB
  refine (vec_any none 0 0 [] _ (by omega) row_none htab).mono ?_
  rintro e w3 ⟨S1, rfl, HS1, hs1, hb3⟩
  have ht3 : TabB w3.heap.size w3 := fun w' h => htab w' (hb3.trans (h.mono hb3.size))
  go_wp2_with fail
  refine (vec_any none 0 0 [] _ (by omega) row_none ht3).mono ?_
  rintro e w4 ⟨S2, rfl, HS2, hs2, hb4⟩
  have ht4 : TabB w4.heap.size w4 := fun w' h => ht3 w' (hb4.trans (h.mono hb4.size))
  go_wp2_with fail
  refine (vec_any none 0 0 [] _ (by omega) row_none ht4).mono ?_
  rintro e w5 ⟨S3, rfl, HS3, hs3, hb5⟩
  have g4 := hb3.trans (hb4.mono hb3.size)
  have HB5 : Hid (Below wx.heap.size wx w5) := g4.trans (hb5.mono g4.size)
  have hE : (S1.toList == S3.toList) = true := same_text (by rw [HS1.out, HS3.out])
  have hS0 : S1.size = 0 := by omega
  clear hb3 hb4 hb5 g4 ht3 ht4 htab HS1 HS2 HS3 hs1 hs2 hs3
  go_wp2_with fail
  refine wp_loop_rounds 1 ?_
  rw [rounds_succ]
  go_wp2_with fail
  refine wp_loop_rounds 1 ?_
  rw [rounds_succ]
  go_wp2
  go_ret
  exact ⟨rfl, HB5.out⟩

set_option maxHeartbeats 2000000 in
theorem splits_walk (a0 : Option Addr) (n cap : Nat) (k : Int) (L : List Nat) (w : World) (hcap : a0 = none → n = 0 ∧ cap = 0) (hrow : Row w a0 n L) (hn : n ≤ maxLen) (htab : TabB w.heap.size w) :
    Calls Tryd.prog 3 #[.slice a0 n cap, .int .i64 k] w fun e w' => e = .returned (.bool true) ∧ Below w.heap.size w w' := by
  have cB := bytes5_any a0 n cap k w hn
  unfold maxLen at hn
  by_cases h1 : 65536 < n
  · go_enter Tryd.func3, Tryd.ntmps3
    go_wp2_with (go_at_call 5; refine cB.mono ?_; rintro e wx ⟨⟨q, rfl⟩, rfl⟩)
    all_goals
      go_ret
      exact ⟨rfl, Below.refl _ _⟩
  by_cases h2 : k < 0
  · go_enter Tryd.func3, Tryd.ntmps3
    go_wp2_with (go_at_call 5; refine cB.mono ?_; rintro e wx ⟨⟨q, rfl⟩, rfl⟩)
    all_goals
      go_ret
      exact ⟨rfl, Below.refl _ _⟩
  by_cases h3 : (n : Int) < k
  · go_enter Tryd.func3, Tryd.ntmps3
    go_wp2_with (go_at_call 5; refine cB.mono ?_; rintro e wx ⟨⟨q, rfl⟩, rfl⟩)
    all_goals
      go_ret
      exact ⟨rfl, Below.refl _ _⟩
  obtain ⟨kk, rfl⟩ := Int.eq_ofNat_of_zero_le (show 0 ≤ k by omega)
  cases a0 with
  | none =>
    obtain ⟨rfl, rfl⟩ := hcap rfl
    obtain rfl : kk = 0 := by omega
    exact cut_nil w htab
  | some a => exact cut_some a n cap kk L w hrow (by omega) (by omega) htab

end Go.Proofs.Qxb6627839aDoor
