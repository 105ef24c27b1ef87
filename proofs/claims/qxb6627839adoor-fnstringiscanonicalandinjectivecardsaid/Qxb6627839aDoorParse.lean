import Derived.Test.Qxb6627839aDoorCopy
import Derived.Test.Qxb6627839aDoorCan
namespace Go.Proofs.Qxb6627839aDoor
open Go.RowKit
set_option linter.unusedVariables false

/-- Where the reader stands in the text S: pre is read, the counts from x on are left. -/
structure At (S : ByteArray) (pre : List UInt8) (x : Nat) (r : List Nat) : Prop where
  text : S.data.toList = pre ++ (Lib.decDigits x ++ tl r)

theorem At.size {S : ByteArray} {pre : List UInt8} {x : Nat} {r : List Nat} (h : At S pre x r) : S.size = pre.length + (Lib.decDigits x).length + (tl r).length := by
  rw [← size_list, h.text, List.length_append, List.length_append]; omega

theorem At.byte {S : ByteArray} {pre : List UInt8} {x : Nat} {r : List Nat} (h : At S pre x r) (t : Nat) (ht : t < (Lib.decDigits x).length) (hs : pre.length + t < S.size) : S[pre.length + t]'hs = (Lib.decDigits x)[t] := by
  have e := byte_at (pre.length + t) hs
  rw [h.text, List.getElem?_append_right (by omega), Nat.add_sub_cancel_left, List.getElem?_append_left ht, List.getElem?_eq_getElem ht] at e
  exact (Option.some.inj e).symm

theorem At.dot {S : ByteArray} {pre : List UInt8} {x : Nat} {r : List Nat} (h : At S pre x r) (hr : r ≠ []) (hs : pre.length + (Lib.decDigits x).length < S.size) : (S[pre.length + (Lib.decDigits x).length]'hs) = 46 := by
  have e := byte_at (pre.length + (Lib.decDigits x).length) hs
  rw [h.text, List.getElem?_append_right (by omega), Nat.add_sub_cancel_left, List.getElem?_append_right (by omega), Nat.sub_self] at e
  cases r with
  | nil => exact absurd rfl hr
  | cons y r =>
    simp [tl] at e
    exact e.symm

theorem At.lead {S : ByteArray} {pre : List UInt8} {x : Nat} {r : List Nat} (h : At S pre x r) (hs : pre.length < S.size) (h48 : (S[pre.length]'hs).toNat = 48) : (Lib.decDigits x).length ≤ 1 := by
  have e := h.byte 0 (dd_pos x) hs
  simp only [Nat.add_zero] at e
  cases hd : Lib.decDigits x with
  | nil => simp
  | cons d ds =>
    cases ds with
    | nil => simp
    | cons a b =>
      have h1 := dd_lead x d (a :: b) hd (by simp)
      simp only [hd, List.getElem_cons_zero] at e
      rw [e] at h48
      exact absurd h48 h1

theorem At.next {S : ByteArray} {pre : List UInt8} {x y : Nat} {r : List Nat} (h : At S pre x (y :: r)) : At S (pre ++ Lib.decDigits x ++ [46]) y r := by
  refine ⟨?_⟩
  rw [h.text, ← vt_split y r]
  simp [tl]

theorem own_row {w : World} {B n : Nat} {v : Value} {A : List Nat} (h : w.ownsRow B 27 1 v n (cellsOf A)) (hl : A.length = n) (hb : ∀ x ∈ A, x < 18446744073709551616) (hn : 0 < n) : ∃ g cap, v = .slice (some ⟨g, 0, none⟩) n cap ∧ Row w (some ⟨g, 0, none⟩) n A := by
  rcases h.2 with ⟨_, h0⟩ | ⟨g, cap, cur, rfl, hbg, hg, hnc, hcm, hcs, htake⟩
  · omega
  · refine ⟨g, cap, rfl, hl, hb, fun _ => ⟨g, 0, rfl, fun j hj => ?_⟩⟩
    rw [Nat.zero_add, h.cellAt j (by omega)]
    simp [cellsOf, List.getElem?_eq_getElem (show j < A.length by omega)]

theorem drop_cons (A : List Nat) (m : Nat) (h : m < A.length) : A.drop m = A.getD m 0 :: A.drop (m + 1) := by
  rw [List.drop_eq_getElem_cons h, List.getD_eq_getElem?_getD, List.getElem?_eq_getElem h]; rfl

theorem cells_snoc (A : List Nat) (m : Nat) (h : m < A.length) : cellsOf (A.take m) ++ [Value.int .u64 ((A.getD m 0 : Nat) : Int)] = cellsOf (A.take (m + 1)) := by
  rw [take_snoc A m h]; simp [cellsOf]

set_option maxHeartbeats 4000000 in
set_option maxRecDepth 100000 in
theorem parse_any (S : ByteArray) (A : List Nat) (w : World) (hA : ∀ x ∈ A, x < 18446744073709551616) (hn : A.length ≤ 65536) (HS : Hid (S.data.toList = vt A)) :
    Calls Tryd.prog 9 #[.string S] w fun e w' => ∃ ao cap, e = .returned (.tuple #[.slice ao A.length cap, .bool true]) ∧ Row w' ao A.length A ∧ Below w.heap.size w w' := by
  obtain ⟨i0, hi, hz0, hz1, hz2⟩ := info_parts info27
  have hsz : S.size ≤ 21 * A.length := by rw [← size_list, HS.out]; exact vt_len A hA
  have hsz2 : S.size ≤ 1376256 := by omega
  by_cases h0 : A.length = 0
  · have hA0 : A = [] := List.eq_nil_of_length_eq_zero h0
    have hS0 : S.size = 0 := by omega
    subst hA0
    clear HS
    go_enter Tryd.func9, Tryd.ntmps9
    go_wp2
    go_ret2
    exact ⟨none, 0, rfl, row_none, Below.refl _ _⟩
  · have HA : Hid (∀ x ∈ A, x < 18446744073709551616) := hA
    have hpos : 0 < S.size := by
      have hp := dd_pos (A.getD 0 0)
      rw [← size_list, HS.out, ← List.drop_zero (l := A), drop_cons A 0 (by omega), vt_split, List.length_append]; omega
    have HAt : Hid (At S [] (A.getD 0 0) (A.drop 1)) := ⟨by rw [HS.out, List.nil_append, ← vt_split]; exact congrArg vt (drop_cons A 0 (by omega))⟩
    have hS0 : ((S.size : Int) == 0) = false := by rw [beq_eq_false_iff_ne]; omega
    clear hA
    go_enter Tryd.func9, Tryd.ntmps9
    go_wp2_with fail
    go_loopw [4, 5] (fun o i wr => ∃ (m : Nat) (pre : List UInt8), m < A.length ∧ i = .int .i64 pre.length ∧ pre.length ≤ S.size ∧ Hid (At S pre (A.getD m 0) (A.drop (m + 1))) ∧ Hid (wr.ownsRow w.heap.size 27 1 o m (cellsOf (A.take m))) ∧ Below w.heap.size w wr) (fun _ i _ => S.size + 1 - (intOf i).toNat)
    case atStart => exact ⟨0, [], by omega, rfl, Nat.zero_le _, HAt, World.ownsRow_nil _ _ _ _, Below.refl _ _⟩
    case round =>
      obtain ⟨m, pre, hm, rfl, hpre, HT, HO, hbel⟩ := hrel
      obtain ⟨x, hx⟩ : ∃ x, x = A.getD m 0 := ⟨_, rfl⟩
      have hx64 : x < 18446744073709551616 := by rw [hx]; exact getD_lt HA.out m
      have HX : Hid (x = A.getD m 0) := hx
      rw [← hx] at HT
      obtain ⟨D, hD⟩ : ∃ D, D = (Lib.decDigits x).length := ⟨_, rfl⟩
      have hDp : 0 < D := by rw [hD]; exact dd_pos x
      have hD20 : D ≤ 20 := by rw [hD]; exact nd20 x hx64
      have hszz := HT.out.size
      rw [← hD] at hszz
      have hge1 : pre.length + D ≤ S.size := by omega
      have HZ : Hid (S.size = pre.length + D + (tl (A.drop (m + 1))).length) := hszz
      have HD : Hid (D = (Lib.decDigits x).length) := hD
      have hple : (pre.length : Int) ≤ (S.size : Int) := by omega
      clear hx hD HAt hszz
      go_wp2_with fail
      go_loop [6, 7] (fun tj tn => ∃ (t v : Nat), t ≤ D ∧ tj = .int .i64 ((pre.length + t : Nat) : Int) ∧ tn = .int .u64 (v : Int) ∧ v < 18446744073709551616 ∧ Hid (v = val ((Lib.decDigits x).take t))) (fun tj _ => S.size + 1 - (intOf tj).toNat)
      case atStart => exact ⟨0, 0, by omega, rfl, rfl, by omega, rfl⟩
      case round =>
        obtain ⟨t, v, ht, rfl, rfl, hv, HV⟩ := hrel
        by_cases htD : t < D
        · have hts : pre.length + t < S.size := by omega
          have htd : t < (Lib.decDigits x).length := by rw [← HD.out]; exact htD
          have hbyte := HT.out.byte t htd hts
          have hbd := dd_bytes x (Lib.decDigits x)[t] (List.getElem_mem htd)
          have hvs := val_take_succ (Lib.decDigits x) t htd
          have hvle := val_take (Lib.decDigits x) (t + 1)
          rw [val_dec] at hvle
          rw [← hbyte] at hbd hvs
          rw [← HV.out] at hvs
          have HV2 : Hid (v * 10 + ((S[pre.length + t]'hts).toNat - 48) = val ((Lib.decDigits x).take (t + 1))) := hvs.symm
          have hlim : v * 10 + ((S[pre.length + t]'hts).toNat - 48) < 18446744073709551616 := by omega
          have hts' : (pre.length : Int) + (t : Int) < (S.size : Int) := by omega
          have hn46 : ((((S[pre.length + t]'hts).toNat : Nat) : Int) != 46) = true := by simp; omega
          have hlo : (48 : Int) ≤ (((S[pre.length + t]'hts).toNat : Nat) : Int) := by omega
          have hhi : (((S[pre.length + t]'hts).toNat : Nat) : Int) ≤ 57 := by omega
          have hnov : (v : Int) ≤ (18446744073709551615 - ((((S[pre.length + t]'hts).toNat : Nat) : Int) - 48)) / 10 := by omega
          clear hvs hvle hbyte hbd
          go_wp2
          go_round
          case rel => exact ⟨t + 1, _, by omega, by go_num, by go_num, hlim, HV2⟩
          case measure => simp [intOf]; omega
        · obtain rfl : t = D := by omega
          have hvx : v = x := by rw [HV.out, HD.out, List.take_length, val_dec]
          subst hvx
          clear HV
          by_cases hr : m + 1 < A.length
          · have hne : A.drop (m + 1) ≠ [] := by rw [drop_cons A (m + 1) hr]; simp
            have hsl : pre.length + t < S.size := by
              have := HZ.out
              rw [drop_cons A (m + 1) hr] at this
              simp [tl] at this; omega
            have hdot : (((S[pre.length + t]'hsl).toNat : Nat) : Int) = 46 := by
              have := HT.out.dot hne (by rw [← HD.out]; exact hsl)
              simp only [← HD.out] at this
              rw [this]; rfl
            have hts' : (pre.length : Int) + (t : Int) < (S.size : Int) := by omega
            have hne0 : (((pre.length : Int) + (t : Int)) == (pre.length : Int)) = false := by rw [beq_eq_false_iff_ne]; omega
            have hneS : (((pre.length : Int) + (t : Int)) == (S.size : Int)) = false := by rw [beq_eq_false_iff_ne]; omega
            have hpl : (pre.length : Int) < (S.size : Int) := by omega
            have hpl2 : pre.length < S.size := by omega
            have hlead : ((((S[pre.length]'hpl2).toNat : Nat) : Int) == 48) = true ∧ ¬ (1 : Int) < (t : Int) ∨ ((((S[pre.length]'hpl2).toNat : Nat) : Int) == 48) = false := by
              by_cases h48 : (S[pre.length]'hpl2).toNat = 48
              · left
                have := HT.out.lead hpl2 h48
                rw [← HD.out] at this
                exact ⟨by rw [h48]; rfl, by omega⟩
              · right
                rw [beq_eq_false_iff_ne]; omega
            rcases hlead with ⟨hl1, hl2⟩ | hl1
            all_goals
              go_wp2_with (at_builtin; go_must (refine wpList_append_own _ rfl _ _ 22 rfl w.heap.size 27 i0 (.int .u64 0) 1 8 Tryd.underlying22 hi hz0 hz1 hz2 rfl (by decide) _ _ _ rfl (HO.out.alloc _) ⟨wr.heap.size, 0, none⟩ 1 1 [.int .u64 (v : Int)] rfl rfl (cell_one_new _ _ _) (by intro u hu; simp at hu; subst hu; rfl) (by unfold maxLen; omega) (by omega) (by have := hbel.size; simp; omega) ?_); intro v2 w2 hown2 hgrow2 _)


              have hown3 := hown2
              rw [HX.out, cells_snoc A m hm] at hown3
              have hb2 := (hbel.alloc hbel.size _).grown hgrow2 (by have := hbel.size; simp; omega) (fun k hk => (HO.out.lt k hk).1)
              go_roundw
              case rel =>
                refine ⟨m + 1, pre ++ Lib.decDigits v ++ [46], hr, ?_, ?_, ?_, hown3, ?_⟩
                · simp [← HD.out]; go_num
                · simp [← HD.out]; omega
                · have h1 := HT.out
                  rw [drop_cons A (m + 1) hr] at h1
                  exact h1.next
                · exact hb2
              case measure => simp [intOf]; omega
          · have hr2 : m + 1 = A.length := by omega
            have hS2 : S.size = pre.length + t := by
              have := HZ.out
              rw [hr2, List.drop_length] at this
              simpa [tl] using this
            have hts' : ¬ (pre.length : Int) + (t : Int) < (S.size : Int) := by omega
            have hne0 : (((pre.length : Int) + (t : Int)) == (pre.length : Int)) = false := by rw [beq_eq_false_iff_ne]; omega
            have hneS : (((pre.length : Int) + (t : Int)) == (S.size : Int)) = true := by rw [beq_iff_eq]; omega
            have hpl : (pre.length : Int) < (S.size : Int) := by omega
            have hpl2 : pre.length < S.size := by omega
            have hlead : ((((S[pre.length]'hpl2).toNat : Nat) : Int) == 48) = true ∧ ¬ (1 : Int) < (t : Int) ∨ ((((S[pre.length]'hpl2).toNat : Nat) : Int) == 48) = false := by
              by_cases h48 : (S[pre.length]'hpl2).toNat = 48
              · left
                have := HT.out.lead hpl2 h48
                rw [← HD.out] at this
                exact ⟨by rw [h48]; rfl, by omega⟩
              · right
                rw [beq_eq_false_iff_ne]; omega
            clear hS2
            rcases hlead with ⟨hl1, hl2⟩ | hl1
            all_goals
              go_wp2_with (at_builtin; go_must (refine wpList_append_own _ rfl _ _ 22 rfl w.heap.size 27 i0 (.int .u64 0) 1 8 Tryd.underlying22 hi hz0 hz1 hz2 rfl (by decide) _ _ _ rfl (HO.out.alloc _) ⟨wr.heap.size, 0, none⟩ 1 1 [.int .u64 (v : Int)] rfl rfl (cell_one_new _ _ _) (by intro u hu; simp at hu; subst hu; rfl) (by unfold maxLen; omega) (by omega) (by have := hbel.size; simp; omega) ?_); intro v2 w2 hown2 hgrow2 _)


              have hown3 := hown2
              rw [HX.out, cells_snoc A m hm] at hown3
              have hb2 := (hbel.alloc hbel.size _).grown hgrow2 (by have := hbel.size; simp; omega) (fun k hk => (HO.out.lt k hk).1)
              obtain ⟨g, cap, rfl, hrow⟩ := own_row hown3 (by rw [List.length_take]; omega) (fun y hy => HA.out y (List.mem_of_mem_take hy)) (by omega)
              go_ret2
              refine ⟨some ⟨g, 0, none⟩, ⟨cap, by rw [← hr2]; try go_num⟩, ?_, hb2⟩
              rw [hr2, List.take_length] at hrow
              exact hrow
end Go.Proofs.Qxb6627839aDoor
