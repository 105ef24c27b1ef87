/-
  FnKeyStringFramesBackendAndName: the walk.
-/
import Derived.Test.Qxb6627766aDoorStr
namespace Go.Proofs.Qxb6627766aDoor
open Go.RowKit
set_option linter.unusedVariables false

theorem bytes_any (be nm : ByteArray) (a : Int) (x : Bool) (b : Int) (y : Bool) (c d : Int) (z : Bool) (w : World) (h0 : be.size ≤ maxLen) (h1 : nm.size ≤ maxLen) :
    Calls Tryd.prog 5 #[.string be, .string nm, .int .i64 a, .bool x, .int .i64 b, .bool y, .int .i64 c, .int .i64 d, .bool z] w fun e w' => (∃ q, e = .returned (.bool q)) ∧ w' = w := by
  unfold maxLen at h0 h1
  go_enter Tryd.func5, Tryd.ntmps5
  go_wp2
  all_goals
    go_ret
    exact ⟨⟨_, rfl⟩, rfl⟩

theorem bytes_eq {A B : ByteArray} (h : A.data.toList = B.data.toList) : A = B := by
  cases A; cases B
  congr
  exact Array.ext' h
theorem cat_data (A B : ByteArray) : (A ++ B).data.toList = A.data.toList ++ B.data.toList := by simp [ByteArray.data_append]
theorem same_text {A B : ByteArray} (h : A.data.toList = B.data.toList) : (A.toList == B.toList) = true := by rw [bytes_eq h]; simp

theorem frame_eq (be nm : List UInt8) (a : Int) (x : Bool) (b : Int) (y : Bool) (c d : Int) (z : Bool) : keyText be nm a x b y c d z = be ++ keyText [] [] a x b y c d z ++ nm := by
  simp [keyText]
theorem plain_eq (be nm : List UInt8) (a b c d : Int) : keyText be nm a false b false c d false = be ++ [45, 45] ++ nm := by
  simp [keyText]

theorem keyText_len (be nm : List UInt8) (a : Int) (x : Bool) (b : Int) (y : Bool) (c d : Int) (z : Bool) (ha0 : -9223372036854775808 ≤ a) (ha1 : a ≤ 9223372036854775807) (hb0 : -9223372036854775808 ≤ b) (hb1 : b ≤ 9223372036854775807)
    (hc0 : -9223372036854775808 ≤ c) (hc1 : c ≤ 9223372036854775807) (hd0 : -9223372036854775808 ≤ d) (hd1 : d ≤ 9223372036854775807) : (keyText be nm a x b y c d z).length ≤ be.length + nm.length + 90 := by
  have h1 := itoa_len a ha0 ha1
  have h2 := itoa_len b hb0 hb1
  have h3 := itoa_len c hc0 hc1
  have h4 := itoa_len d hd0 hd1
  unfold keyText
  cases x <;> cases y <;> cases z <;> simp <;> omega

/-- Key.String, its text behind a name. -/
theorem key_hid (be nm : ByteArray) (a : Int) (x : Bool) (b : Int) (y : Bool) (c d : Int) (z : Bool) (w : World) (hlen : be.size + nm.size ≤ 1048576) (ha0 : -9223372036854775808 ≤ a) (ha1 : a ≤ 9223372036854775807) (hb0 : -9223372036854775808 ≤ b) (hb1 : b ≤ 9223372036854775807)
    (hc0 : -9223372036854775808 ≤ c) (hc1 : c ≤ 9223372036854775807) (hd0 : -9223372036854775808 ≤ d) (hd1 : d ≤ 9223372036854775807) (htab : TabB w.heap.size w) :
    Calls Tryd.prog 6 #[.agg #[.string be, .string nm, .int .i64 a, .bool x, .int .i64 b, .bool y, .int .i64 c, .int .i64 d, .bool z]] w fun e w' =>
      ∃ S : ByteArray, e = .returned (.string S) ∧ Hid (S.data.toList = keyText be.data.toList nm.data.toList a x b y c d z) ∧ S.size ≤ be.size + nm.size + 90 ∧ TabB w'.heap.size w' ∧ Below w.heap.size w w' := by
  refine (key_any be nm a x b y c d z w hlen ha0 ha1 hb0 hb1 hc0 hc1 hd0 hd1 htab).mono fun e w' ⟨he, hb⟩ => ⟨_, he, rfl, ?_, fun w2 h2 => htab w2 (hb.trans (h2.mono hb.size)), hb⟩
  have := keyText_len be.data.toList nm.data.toList a x b y c d z ha0 ha1 hb0 hb1 hc0 hc1 hd0 hd1
  rw [Array.length_toList, Array.length_toList] at this
  have e1 : (⟨(keyText be.data.toList nm.data.toList a x b y c d z).toArray⟩ : ByteArray).size = (keyText be.data.toList nm.data.toList a x b y c d z).length := by simp [ByteArray.size]
  rw [e1]; exact this

set_option maxHeartbeats 2000000 in
set_option maxRecDepth 100000 in
theorem frames_walk (be nm : ByteArray) (a : Int) (x : Bool) (b : Int) (y : Bool) (c d : Int) (z : Bool) (w : World) (h0 : be.size ≤ maxLen) (h1 : nm.size ≤ maxLen)
    (ha0 : -9223372036854775808 ≤ a) (ha1 : a ≤ 9223372036854775807) (hb0 : -9223372036854775808 ≤ b) (hb1 : b ≤ 9223372036854775807)
    (hc0 : -9223372036854775808 ≤ c) (hc1 : c ≤ 9223372036854775807) (hd0 : -9223372036854775808 ≤ d) (hd1 : d ≤ 9223372036854775807) (htab : TabB w.heap.size w) :
    Calls Tryd.prog 3 #[.string be, .string nm, .int .i64 a, .bool x, .int .i64 b, .bool y, .int .i64 c, .int .i64 d, .bool z] w fun e w' => e = .returned (.bool true) ∧ Below w.heap.size w w' := by
  have cB := bytes_any be nm a x b y c d z w h0 h1
  unfold maxLen at h0 h1
  by_cases hl0 : 524288 < be.size
  · go_enter Tryd.func3, Tryd.ntmps3
    go_wp2_with (go_at_call 5; refine cB.mono ?_; rintro e w' ⟨⟨q, rfl⟩, rfl⟩)
    all_goals
      go_ret
      exact ⟨rfl, Below.refl _ _⟩
  by_cases hl1 : 524288 < nm.size
  · go_enter Tryd.func3, Tryd.ntmps3
    go_wp2_with (go_at_call 5; refine cB.mono ?_; rintro e w' ⟨⟨q, rfl⟩, rfl⟩)
    all_goals
      go_ret
      exact ⟨rfl, Below.refl _ _⟩
  go_enter Tryd.func3, Tryd.ntmps3
  go_wp2_with (go_at_call 5; refine cB.mono ?_; rintro e wx ⟨⟨q, rfl⟩, rfl⟩)
  · go_ret
    exact ⟨rfl, Below.refl _ _⟩
  clear cB
  refine (key_hid be nm a x b y c d z _ (by omega) ha0 ha1 hb0 hb1 hc0 hc1 hd0 hd1 htab).mono ?_
  rintro e w1 ⟨S1, rfl, HS1, hs1, ht1, hbl1⟩
  clear htab
  go_wp2_with fail
  refine (key_hid ⟨#[]⟩ ⟨#[]⟩ a x b y c d z _ (by decide) ha0 ha1 hb0 hb1 hc0 hc1 hd0 hd1 ht1).mono ?_
  rintro e w2 ⟨S2, rfl, HS2, hs2, ht2, hbl2⟩
  have hs2' : S2.size ≤ 90 := hs2
  clear ht1 hs2
  go_wp2_with fail
  refine (key_hid be nm a false b false c d false _ (by omega) ha0 ha1 hb0 hb1 hc0 hc1 hd0 hd1 ht2).mono ?_
  rintro e w3 ⟨S3, rfl, HS3, hs3, ht3, hbl3⟩
  have HB : Hid (Below wx.heap.size wx w3) := (hbl1.trans (hbl2.mono hbl1.size)).trans (hbl3.mono (hbl1.trans (hbl2.mono hbl1.size)).size)
  clear ht2 ht3 hbl1 hbl2 hbl3
  have hE1 : (S1.toList == (be ++ S2 ++ nm).toList) = true := same_text (by rw [cat_data, cat_data, HS1.out, HS2.out]; exact frame_eq _ _ a x b y c d z)
  have hE2 : (S3.toList == (be ++ ByteArray.mk #[45, 45] ++ nm).toList) = true := same_text (by rw [cat_data, cat_data, HS3.out]; exact plain_eq _ _ a b c d)
  clear HS1 HS2 HS3
  go_wp2
  go_ret
  exact ⟨rfl, HB.out⟩

end Go.Proofs.Qxb6627766aDoor
