/-
  FnKeyStringFieldsComposeInOrder: the walk.
-/
import Derived.Test.Qxb6627766aDoorFramesWalk
namespace Go.Proofs.Qxb6627766aDoor
open Go.RowKit
set_option linter.unusedVariables false

theorem at_tail {t : ByteArray} {l : List UInt8} (h : t.data.toList = l ++ [45, 45]) (i : Nat) (hi : i < 2) (h1 : l.length + i < t.size) : (t[l.length + i]'h1).toNat = 45 := by
  have e : t.data.toList[l.length + i]? = some 45 := by
    rw [h, List.getElem?_append_right (by omega), Nat.add_sub_cancel_left]
    match i, hi with
    | 0, _ => rfl
    | 1, _ => rfl
  rw [Array.getElem?_toList, Array.getElem?_eq_getElem h1] at e
  have e2 : t[l.length + i]'h1 = (45 : UInt8) := Option.some.inj e
  rw [e2]; rfl

set_option maxHeartbeats 1000000 in
theorem cut_any (t : ByteArray) (l : List UInt8) (w : World) (h : Hid (t.data.toList = l ++ [45, 45])) (hs : t.size ≤ 1000) :
    Calls Tryd.prog 7 #[.string t] w fun e w' => ∃ S : ByteArray, e = .returned (.string S) ∧ Hid (S.data.toList = l) ∧ S.size ≤ 1000 ∧ w' = w := by
  have hsz : t.size = l.length + 2 := by
    have := congrArg List.length h.out
    rw [Array.length_toList, List.length_append] at this
    exact this
  have h0' := at_tail h.out 0 (by omega) (by omega)
  have h0 : (t[l.length]'(by omega)).toNat = 45 := h0'
  have h1 := at_tail h.out 1 (by omega) (by omega)
  have hx : (t.extract 0 l.length).data.toList = l := by
    rw [ByteArray.data_extract, Array.toList_extract, h.out]
    simp [List.extract_eq_take_drop]
  have HX : Hid ((t.extract 0 l.length).data.toList = l) := hx
  have hxs : (t.extract 0 l.length).size ≤ 1000 := by simp [ByteArray.size_extract]; omega
  have e0 : (t.size : Int) - 2 = (l.length : Int) := by omega
  have e1 : (t.size : Int) - 1 = ((l.length + 1 : Nat) : Int) := by omega
  clear h0' hx
  go_enter Tryd.func7, Tryd.ntmps7
  go_wp2
  go_ret
  exact ⟨_, rfl, HX, hxs, rfl⟩

theorem dec_hid (n : Int) (h0 : -9223372036854775808 ≤ n) (h1 : n ≤ 9223372036854775807) (w : World) :
    Calls Tryd.prog 8 #[.int .i64 n] w fun e w' => ∃ S : ByteArray, e = .returned (.string S) ∧ Hid (S.data.toList = Lib.itoa n) ∧ S.size ≤ 20 ∧ Below w.heap.size w w' := by
  refine (dec_any n h0 h1 w).mono fun e w' ⟨he, hb⟩ => ⟨_, he, rfl, ?_, hb⟩
  have := itoa_len n h0 h1
  simpa [ByteArray.size] using this

/-- The text of one field. -/
def fS (a : Int) (x : Bool) : List UInt8 := if x then [45, 115] ++ Lib.itoa a else []
def fM (b : Int) (y : Bool) : List UInt8 := if y then [45, 109] ++ Lib.itoa b else []
def fC (c d : Int) (z : Bool) : List UInt8 := if z then [45, 83] ++ Lib.itoa c ++ ([45, 67] ++ Lib.itoa d) else []
theorem bare_eq (a : Int) (x : Bool) (b : Int) (y : Bool) (c d : Int) (z : Bool) : keyText [] [] a x b y c d z = fS a x ++ fM b y ++ fC c d z ++ [45, 45] := by simp [keyText, fS, fM, fC]
theorem s_eq (a : Int) (x : Bool) : keyText [] [] a x 0 false 0 0 false = fS a x ++ [45, 45] := by simp [keyText, fS]
theorem m_eq (b : Int) (y : Bool) : keyText [] [] 0 false b y 0 0 false = fM b y ++ [45, 45] := by simp [keyText, fM]
theorem c_eq (c d : Int) (z : Bool) : keyText [] [] 0 false 0 false c d z = fC c d z ++ [45, 45] := by simp [keyText, fC]

theorem dash_text {A : ByteArray} (h : A.data.toList = [45, 45]) : (A.toList == [45, 45]) = true := by
  have e : A = ⟨#[45, 45]⟩ := bytes_eq h
  rw [e]; decide +kernel

set_option maxHeartbeats 4000000 in
set_option maxRecDepth 100000 in
theorem compose_walk (a : Int) (x : Bool) (b : Int) (y : Bool) (c d : Int) (z : Bool) (w : World)
    (ha0 : -9223372036854775808 ≤ a) (ha1 : a ≤ 9223372036854775807) (hb0 : -9223372036854775808 ≤ b) (hb1 : b ≤ 9223372036854775807)
    (hc0 : -9223372036854775808 ≤ c) (hc1 : c ≤ 9223372036854775807) (hd0 : -9223372036854775808 ≤ d) (hd1 : d ≤ 9223372036854775807) (htab : TabB w.heap.size w) :
    Calls Tryd.prog 4 #[.int .i64 a, .bool x, .int .i64 b, .bool y, .int .i64 c, .int .i64 d, .bool z] w fun e w' => e = .returned (.bool true) ∧ Below w.heap.size w w' := by
  go_enter Tryd.func4, Tryd.ntmps4
  go_wp2_with fail
  refine (key_hid ⟨#[]⟩ ⟨#[]⟩ a x b y c d z _ (by decide) ha0 ha1 hb0 hb1 hc0 hc1 hd0 hd1 htab).mono ?_
  rintro e w1 ⟨S0, rfl, HS0, hs0, ht1, hbl1⟩
  have h0 : S0.size ≤ 90 := hs0
  clear htab hs0
  go_wp2_with fail
  refine (key_hid ⟨#[]⟩ ⟨#[]⟩ a x 0 false 0 0 false _ (by decide) ha0 ha1 (by omega) (by omega) (by omega) (by omega) (by omega) (by omega) ht1).mono ?_
  rintro e w2 ⟨S1, rfl, HS1, hs1, ht2, hbl2⟩
  have h1 : S1.size ≤ 90 := hs1
  clear ht1 hs1
  go_wp2_with fail
  refine (key_hid ⟨#[]⟩ ⟨#[]⟩ 0 false b y 0 0 false _ (by decide) (by omega) (by omega) hb0 hb1 (by omega) (by omega) (by omega) (by omega) ht2).mono ?_
  rintro e w3 ⟨S2, rfl, HS2, hs2, ht3, hbl3⟩
  have h2 : S2.size ≤ 90 := hs2
  clear ht2 hs2
  go_wp2_with fail
  refine (key_hid ⟨#[]⟩ ⟨#[]⟩ 0 false 0 false c d z _ (by decide) (by omega) (by omega) (by omega) (by omega) hc0 hc1 hd0 hd1 ht3).mono ?_
  rintro e w4 ⟨S3, rfl, HS3, hs3, ht4, hbl4⟩
  have h3 : S3.size ≤ 90 := hs3
  clear ht3 hs3 ht4
  have g2 := hbl1.trans (hbl2.mono hbl1.size)
  have g3 := g2.trans (hbl3.mono g2.size)
  have g4 := g3.trans (hbl4.mono g3.size)
  have HB : Hid (Below w.heap.size w w4) := g4
  clear hbl1 hbl2 hbl3 hbl4 g2 g3 g4
  go_wp2_with fail
  refine (cut_any S1 (fS a x) _ (by rw [Hid, HS1.out]; exact s_eq a x) (by omega)).mono ?_
  rintro e wq ⟨T1, rfl, HT1, hT1, rfl⟩
  go_wp2_with fail
  refine (cut_any S2 (fM b y) _ (by rw [Hid, HS2.out]; exact m_eq b y) (by omega)).mono ?_
  rintro e wq ⟨T2, rfl, HT2, hT2, rfl⟩
  go_wp2_with fail
  refine (cut_any S3 (fC c d z) _ (by rw [Hid, HS3.out]; exact c_eq c d z) (by omega)).mono ?_
  rintro e wq ⟨T3, rfl, HT3, hT3, rfl⟩
  have hE1 : (S0.toList == (T1 ++ T2 ++ T3 ++ ByteArray.mk #[45, 45]).toList) = true := same_text (by
    rw [cat_data, cat_data, cat_data, HS0.out, HT1.out, HT2.out, HT3.out]; exact bare_eq a x b y c d z)
  clear HS0 HT1 HT2 HT3
  cases x <;> cases y <;> cases z
  · have hEs : (S1.toList == [45, 45]) = true := dash_text (by rw [HS1.out]; exact s_eq a false)
    have hEm : (S2.toList == [45, 45]) = true := dash_text (by rw [HS2.out]; exact m_eq b false)
    have hEc : (S3.toList == [45, 45]) = true := dash_text (by rw [HS3.out]; exact c_eq c d false)
    clear HS1 HS2 HS3
    go_wp2
    go_ret
    exact ⟨rfl, HB.out⟩
  · go_wp2_with fail
    refine (dec_hid c hc0 hc1 _).mono ?_
    rintro e v3 ⟨D3, rfl, HD3, hD3, hl3⟩
    have HB3 : Hid (Below w.heap.size w v3) := HB.out.trans (hl3.mono HB.out.size)
    clear hl3
    go_wp2_with fail
    refine (dec_hid d hd0 hd1 _).mono ?_
    rintro e v4 ⟨D4, rfl, HD4, hD4, hl4⟩
    have HB4 : Hid (Below w.heap.size w v4) := HB3.out.trans (hl4.mono HB3.out.size)
    clear hl4
    have hEs : (S1.toList == [45, 45]) = true := dash_text (by rw [HS1.out]; exact s_eq a false)
    have hEm : (S2.toList == [45, 45]) = true := dash_text (by rw [HS2.out]; exact m_eq b false)
    have hEc : (S3.toList == (ByteArray.mk #[45, 83] ++ D3 ++ ByteArray.mk #[45, 67] ++ D4 ++ ByteArray.mk #[45, 45]).toList) = true := same_text (by rw [cat_data, cat_data, cat_data, cat_data, HS3.out, HD3.out, HD4.out]; simp [c_eq, fC])
    clear HS1 HS2 HS3
    go_wp2
    go_ret
    exact ⟨rfl, HB4.out⟩
  · go_wp2_with fail
    refine (dec_hid b hb0 hb1 _).mono ?_
    rintro e v2 ⟨D2, rfl, HD2, hD2, hl2⟩
    have HB2 : Hid (Below w.heap.size w v2) := HB.out.trans (hl2.mono HB.out.size)
    clear hl2
    have hEs : (S1.toList == [45, 45]) = true := dash_text (by rw [HS1.out]; exact s_eq a false)
    have hEm : (S2.toList == (ByteArray.mk #[45, 109] ++ D2 ++ ByteArray.mk #[45, 45]).toList) = true := same_text (by rw [cat_data, cat_data, HS2.out, HD2.out]; exact m_eq b true)
    have hEc : (S3.toList == [45, 45]) = true := dash_text (by rw [HS3.out]; exact c_eq c d false)
    clear HS1 HS2 HS3
    go_wp2
    go_ret
    exact ⟨rfl, HB2.out⟩
  · go_wp2_with fail
    refine (dec_hid b hb0 hb1 _).mono ?_
    rintro e v2 ⟨D2, rfl, HD2, hD2, hl2⟩
    have HB2 : Hid (Below w.heap.size w v2) := HB.out.trans (hl2.mono HB.out.size)
    clear hl2
    go_wp2_with fail
    refine (dec_hid c hc0 hc1 _).mono ?_
    rintro e v3 ⟨D3, rfl, HD3, hD3, hl3⟩
    have HB3 : Hid (Below w.heap.size w v3) := HB2.out.trans (hl3.mono HB2.out.size)
    clear hl3
    go_wp2_with fail
    refine (dec_hid d hd0 hd1 _).mono ?_
    rintro e v4 ⟨D4, rfl, HD4, hD4, hl4⟩
    have HB4 : Hid (Below w.heap.size w v4) := HB3.out.trans (hl4.mono HB3.out.size)
    clear hl4
    have hEs : (S1.toList == [45, 45]) = true := dash_text (by rw [HS1.out]; exact s_eq a false)
    have hEm : (S2.toList == (ByteArray.mk #[45, 109] ++ D2 ++ ByteArray.mk #[45, 45]).toList) = true := same_text (by rw [cat_data, cat_data, HS2.out, HD2.out]; exact m_eq b true)
    have hEc : (S3.toList == (ByteArray.mk #[45, 83] ++ D3 ++ ByteArray.mk #[45, 67] ++ D4 ++ ByteArray.mk #[45, 45]).toList) = true := same_text (by rw [cat_data, cat_data, cat_data, cat_data, HS3.out, HD3.out, HD4.out]; simp [c_eq, fC])
    clear HS1 HS2 HS3
    go_wp2
    go_ret
    exact ⟨rfl, HB4.out⟩
  · go_wp2_with fail
    refine (dec_hid a ha0 ha1 _).mono ?_
    rintro e v1 ⟨D1, rfl, HD1, hD1, hl1⟩
    have HB1 : Hid (Below w.heap.size w v1) := HB.out.trans (hl1.mono HB.out.size)
    clear hl1
    have hEs : (S1.toList == (ByteArray.mk #[45, 115] ++ D1 ++ ByteArray.mk #[45, 45]).toList) = true := same_text (by rw [cat_data, cat_data, HS1.out, HD1.out]; exact s_eq a true)
    have hEm : (S2.toList == [45, 45]) = true := dash_text (by rw [HS2.out]; exact m_eq b false)
    have hEc : (S3.toList == [45, 45]) = true := dash_text (by rw [HS3.out]; exact c_eq c d false)
    clear HS1 HS2 HS3
    go_wp2
    go_ret
    exact ⟨rfl, HB1.out⟩
  · go_wp2_with fail
    refine (dec_hid a ha0 ha1 _).mono ?_
    rintro e v1 ⟨D1, rfl, HD1, hD1, hl1⟩
    have HB1 : Hid (Below w.heap.size w v1) := HB.out.trans (hl1.mono HB.out.size)
    clear hl1
    go_wp2_with fail
    refine (dec_hid c hc0 hc1 _).mono ?_
    rintro e v3 ⟨D3, rfl, HD3, hD3, hl3⟩
    have HB3 : Hid (Below w.heap.size w v3) := HB1.out.trans (hl3.mono HB1.out.size)
    clear hl3
    go_wp2_with fail
    refine (dec_hid d hd0 hd1 _).mono ?_
    rintro e v4 ⟨D4, rfl, HD4, hD4, hl4⟩
    have HB4 : Hid (Below w.heap.size w v4) := HB3.out.trans (hl4.mono HB3.out.size)
    clear hl4
    have hEs : (S1.toList == (ByteArray.mk #[45, 115] ++ D1 ++ ByteArray.mk #[45, 45]).toList) = true := same_text (by rw [cat_data, cat_data, HS1.out, HD1.out]; exact s_eq a true)
    have hEm : (S2.toList == [45, 45]) = true := dash_text (by rw [HS2.out]; exact m_eq b false)
    have hEc : (S3.toList == (ByteArray.mk #[45, 83] ++ D3 ++ ByteArray.mk #[45, 67] ++ D4 ++ ByteArray.mk #[45, 45]).toList) = true := same_text (by rw [cat_data, cat_data, cat_data, cat_data, HS3.out, HD3.out, HD4.out]; simp [c_eq, fC])
    clear HS1 HS2 HS3
    go_wp2
    go_ret
    exact ⟨rfl, HB4.out⟩
  · go_wp2_with fail
    refine (dec_hid a ha0 ha1 _).mono ?_
    rintro e v1 ⟨D1, rfl, HD1, hD1, hl1⟩
    have HB1 : Hid (Below w.heap.size w v1) := HB.out.trans (hl1.mono HB.out.size)
    clear hl1
    go_wp2_with fail
    refine (dec_hid b hb0 hb1 _).mono ?_
    rintro e v2 ⟨D2, rfl, HD2, hD2, hl2⟩
    have HB2 : Hid (Below w.heap.size w v2) := HB1.out.trans (hl2.mono HB1.out.size)
    clear hl2
    have hEs : (S1.toList == (ByteArray.mk #[45, 115] ++ D1 ++ ByteArray.mk #[45, 45]).toList) = true := same_text (by rw [cat_data, cat_data, HS1.out, HD1.out]; exact s_eq a true)
    have hEm : (S2.toList == (ByteArray.mk #[45, 109] ++ D2 ++ ByteArray.mk #[45, 45]).toList) = true := same_text (by rw [cat_data, cat_data, HS2.out, HD2.out]; exact m_eq b true)
    have hEc : (S3.toList == [45, 45]) = true := dash_text (by rw [HS3.out]; exact c_eq c d false)
    clear HS1 HS2 HS3
    go_wp2
    go_ret
    exact ⟨rfl, HB2.out⟩
  · go_wp2_with fail
    refine (dec_hid a ha0 ha1 _).mono ?_
    rintro e v1 ⟨D1, rfl, HD1, hD1, hl1⟩
    have HB1 : Hid (Below w.heap.size w v1) := HB.out.trans (hl1.mono HB.out.size)
    clear hl1
    go_wp2_with fail
    refine (dec_hid b hb0 hb1 _).mono ?_
    rintro e v2 ⟨D2, rfl, HD2, hD2, hl2⟩
    have HB2 : Hid (Below w.heap.size w v2) := HB1.out.trans (hl2.mono HB1.out.size)
    clear hl2
    go_wp2_with fail
    refine (dec_hid c hc0 hc1 _).mono ?_
    rintro e v3 ⟨D3, rfl, HD3, hD3, hl3⟩
    have HB3 : Hid (Below w.heap.size w v3) := HB2.out.trans (hl3.mono HB2.out.size)
    clear hl3
    go_wp2_with fail
    refine (dec_hid d hd0 hd1 _).mono ?_
    rintro e v4 ⟨D4, rfl, HD4, hD4, hl4⟩
    have HB4 : Hid (Below w.heap.size w v4) := HB3.out.trans (hl4.mono HB3.out.size)
    clear hl4
    have hEs : (S1.toList == (ByteArray.mk #[45, 115] ++ D1 ++ ByteArray.mk #[45, 45]).toList) = true := same_text (by rw [cat_data, cat_data, HS1.out, HD1.out]; exact s_eq a true)
    have hEm : (S2.toList == (ByteArray.mk #[45, 109] ++ D2 ++ ByteArray.mk #[45, 45]).toList) = true := same_text (by rw [cat_data, cat_data, HS2.out, HD2.out]; exact m_eq b true)
    have hEc : (S3.toList == (ByteArray.mk #[45, 83] ++ D3 ++ ByteArray.mk #[45, 67] ++ D4 ++ ByteArray.mk #[45, 45]).toList) = true := same_text (by rw [cat_data, cat_data, cat_data, cat_data, HS3.out, HD3.out, HD4.out]; simp [c_eq, fC])
    clear HS1 HS2 HS3
    go_wp2
    go_ret
    exact ⟨rfl, HB4.out⟩

end Go.Proofs.Qxb6627766aDoor
