/-
  The functions that only read a builder.
-/
import Derived.Test.Qxb6627791aSet
namespace Go.Proofs.Qxb6627791a
open Go.RowKit
open Go.Maps
set_option linter.unusedVariables false

theorem typesLen_any {B h g n : Nat} {who : Nat → Nat × Nat} {ts : List Nat} {tb : List ByteArray} (w : World) (hb : Bld B w who h g n ts tb) (ht : ts.length ≤ 2000000) :
    Calls Try.prog 15 #[.pointer (some ⟨g, 0, none⟩)] w fun e w' => e = .returned (.int .i64 (ts.length : Int)) ∧ w' = w := by
  obtain ⟨A, T, N, M, b⟩ := hb
  have c21 := len32 g 3 T _ w (head_cell b.head (off := 3) (v := T) rfl).1 b.types (by rw [cellsT_len]; exact ht)
  rw [cellsT_len] at c21
  clear b
  go_enter Try.func15, Try.ntmps15
  go_wp2_with (go_at_call 21; refine c21.mono ?_; rintro e w' ⟨rfl, rfl⟩)
  go_ret
  exact ⟨rfl, rfl⟩

theorem addrsLen_any {B h g n : Nat} {who : Nat → Nat × Nat} {ts : List Nat} {tb : List ByteArray} (w : World) (hb : Bld B w who h g n ts tb) (ht : n ≤ 2000000) :
    Calls Try.prog 14 #[.pointer (some ⟨g, 0, none⟩)] w fun e w' => e = .returned (.int .i64 (n : Int)) ∧ w' = w := by
  obtain ⟨A, T, N, M, b⟩ := hb
  obtain ⟨xa, e, ha⟩ := b.addrs
  have c22 := len64 g 1 A _ w (head_cell b.head (off := 1) (v := A) rfl).1 ha (by rw [e]; exact ht)
  rw [e] at c22
  clear b ha
  go_enter Try.func14, Try.ntmps14
  go_wp2_with (go_at_call 22; refine c22.mono ?_; rintro e w' ⟨rfl, rfl⟩)
  go_ret
  exact ⟨rfl, rfl⟩

theorem names_any {B h g n : Nat} {who : Nat → Nat × Nat} {ts : List Nat} {tb : List ByteArray} (w : World) (hb : Bld B w who h g n ts tb) :
    Calls Try.prog 10 #[.pointer (some ⟨g, 0, none⟩)] w fun e w' => ∃ a cap, e = .returned (.slice a tb.length cap) ∧ w' = w ∧ Own B w who (h + 3, 0) 9 (.slice a tb.length cap) (cellsS tb) := by
  obtain ⟨A, T, N, M, b⟩ := hb
  have hc := (head_cell b.head (off := 4) (v := N) rfl).1
  obtain ⟨a, cap, rfl, _⟩ := b.names.len0
  rw [cellsS_len] at hc
  have HN : Hid (Own B w who (h + 3, 0) 9 (.slice a tb.length cap) (cellsS tb)) := by
    have := b.names
    rw [cellsS_len] at this
    exact this
  clear b
  go_enter Try.func10, Try.ntmps10
  go_wp2
  go_ret
  exact ⟨a, cap, rfl, rfl, HN.out⟩

theorem typeAt_bld {B h g n : Nat} {who : Nat → Nat × Nat} {ts : List Nat} {tb : List ByteArray} (w : World) (hb : Bld B w who h g n ts tb) (ht : ts.length ≤ 2000000) (i t : Nat) (hi : ts[i]? = some t) :
    Calls Try.prog 16 #[.pointer (some ⟨g, 0, none⟩), .int .i64 (i : Int)] w fun e w' => e = .returned (.int .i32 (t : Int)) ∧ w' = w := by
  obtain ⟨A, T, N, M, b⟩ := hb
  exact typeAt_any g i T (.int .i32 (t : Int)) _ w (head_cell b.head (off := 3) (v := T) rfl).1 b.types (by rw [cellsT_len]; exact ht) (by simp [cellsT, hi])

theorem numLen_any {B h g n : Nat} {who : Nat → Nat × Nat} {ts : List Nat} {tb : List ByteArray} (w : World) (hb : Bld B w who h g n ts tb) :
    Calls Try.prog 12 #[.pointer (some ⟨g, 0, none⟩)] w fun e w' => e = .returned (.int .i64 (tb.length : Int)) ∧ w' = w := by
  obtain ⟨A, T, N, M, b⟩ := hb
  have hc := (head_cell b.head (off := 5) (v := M) rfl).1
  rcases b.map with ⟨rfl, rfl⟩ | ⟨bm, D, _, rfl, _, hown, hok⟩
  · have hl : ∀ w : World, (Builtin.len_ #[43] 3 #[.map none]).run Try.prog w = .ok (.int .i64 0) w := fun w => Maps.len_nil Try.underlying43 3
    clear b
    go_enter Try.func12, Try.ntmps12
    go_wp2
    go_ret
    exact ⟨rfl, rfl⟩
  · have hs := hok.size
    have HO : Hid _ := hown
    clear b hown hok
    go_enter Try.func12, Try.ntmps12
    go_wp2_with (at_len; refine wpList_len_own _ rfl _ 43 rfl 9 21 Try.underlying43 _ bm _ D rfl HO.out ?_)
    go_ret
    exact ⟨by rw [← hs]; rfl, rfl⟩

theorem number_any {B h g n : Nat} {who : Nat → Nat × Nat} {ts : List Nat} {tb : List ByteArray} (w : World) (hb : Bld B w who h g n ts tb) (i : Nat) (s : ByteArray) (hi : tb[i]? = some s) (hs : s.size ≤ maxLen) :
    Calls Try.prog 13 #[.pointer (some ⟨g, 0, none⟩), .string s] w fun e w' => e = .returned (.tuple #[.int .i32 (i : Int), .bool true]) ∧ w' = w := by
  obtain ⟨A, T, N, M, b⟩ := hb
  have hc := (head_cell b.head (off := 5) (v := M) rfl).1
  rcases b.map with ⟨rfl, rfl⟩ | ⟨bm, D, _, rfl, _, hown, hok⟩
  · simp at hi
  · have hhas : Maps.has D (keyS s) = true := (hok.has s).2 (List.mem_of_getElem? hi)
    have hkey : keyOf Try.prog 9 (.string s) = some (keyS s) := Go.WideMaps.keyOf_string_mk Try.underlying9 hs
    have HA : Hid _ := hok.at_ i s hi
    have HO : Hid _ := hown
    clear b hown hok
    go_enter Try.func13, Try.ntmps13
    go_wp2_with (at_lookup; refine wpList_lookup_own_ok_int _ rfl _ _ 43 rfl 9 21 .i32 keyed9 Try.underlying43 Try.underlying21 (zero21 _) bm _ D rfl HO.out _ _ rfl hkey ?_; intro c hat hwc)
    have hcc : c = (i : Int) := by
      have e := HA.out
      rw [hat] at e
      injection e with e
      injection e with _ e
    subst hcc
    go_ret2
    exact ⟨rfl, rfl⟩

end Go.Proofs.Qxb6627791a
