/-
  Key.String: the text of a key.
-/
import Derived.Test.Qxb6627766aDoorFld
namespace Go.Proofs.Qxb6627766aDoor
open Go.RowKit
set_option linter.unusedVariables false

/-- The text of a key. -/
def keyText (be nm : List UInt8) (a : Int) (x : Bool) (b : Int) (y : Bool) (c d : Int) (z : Bool) : List UInt8 :=
  be ++ (if x then [45, 115] ++ Lib.itoa a else []) ++ (if y then [45, 109] ++ Lib.itoa b else []) ++ (if z then [45, 83] ++ Lib.itoa c ++ ([45, 67] ++ Lib.itoa d) else []) ++ [45, 45] ++ nm

theorem box_cells {K : Nat} {v0 v1 v2 v3 v4 v5 v6 v7 v8 : Value} {w : World} (h : w.heap[K]? = some (.cells #[v0, v1, v2, v3, v4, v5, v6, v7, v8] 24 (0, 0))) :
    w.cell? ⟨K, 0, none⟩ = some v0 ∧ w.cell? ⟨K, 1, none⟩ = some v1 ∧ w.cell? ⟨K, 2, none⟩ = some v2 ∧ w.cell? ⟨K, 3, none⟩ = some v3 ∧ w.cell? ⟨K, 4, none⟩ = some v4 ∧ w.cell? ⟨K, 5, none⟩ = some v5 ∧ w.cell? ⟨K, 6, none⟩ = some v6 ∧ w.cell? ⟨K, 7, none⟩ = some v7 ∧ w.cell? ⟨K, 8, none⟩ = some v8 := by
  refine ⟨?_, ?_, ?_, ?_, ?_, ?_, ?_, ?_, ?_⟩ <;> (rw [Lib.cell_of_heap h]; rfl)

theorem new_second (w : World) (o o' : Obj) : ((w.alloc o).alloc o').heap[w.heap.size + 1]? = some o' := by
  have := heap_alloc_new (w.alloc o) o'
  rwa [World.size_alloc] at this

theorem box_next {B K : Nat} {o : Obj} {w w' : World} (h : w.heap[K]? = some o) (hb : Below B w w') (hK : K < B) : w'.heap[K]? = some o := (hb.block K hK).trans h

theorem len_app {l l' : List UInt8} {m k : Nat} (h : l.length ≤ m) (h' : l'.length ≤ k) : (l ++ l').length ≤ m + k := by rw [List.length_append]; omega

/-- What Key.String holds between its writes. -/
def St (B b K : Nat) (o : Obj) (l : List UInt8) (W w : World) : Prop := Bld B b l w ∧ TabB B w ∧ w.heap[K]? = some o ∧ Below B W w

theorem St.next {B b K : Nat} {o : Obj} {l l' : List UInt8} {W w w' : World} (h : St B b K o l W w) (hK : K < B) (hb : Bld B b l' w') (hbel : Below B w w') : St B b K o l' W w' :=
  ⟨hb, h.2.1.next hbel, box_next h.2.2.1 hbel hK, h.2.2.2.trans hbel⟩

set_option maxHeartbeats 2000000 in
set_option maxRecDepth 100000 in
theorem key_fff (be nm : ByteArray) (a b c d : Int) (w : World) (hlen : be.size + nm.size ≤ 1048576) (ha0 : -9223372036854775808 ≤ a) (ha1 : a ≤ 9223372036854775807) (hb0 : -9223372036854775808 ≤ b) (hb1 : b ≤ 9223372036854775807)
    (hc0 : -9223372036854775808 ≤ c) (hc1 : c ≤ 9223372036854775807) (hd0 : -9223372036854775808 ≤ d) (hd1 : d ≤ 9223372036854775807) (htab : TabB w.heap.size w) :
    Calls Tryd.prog 6 #[.agg #[.string be, .string nm, .int .i64 a, .bool false, .int .i64 b, .bool false, .int .i64 c, .int .i64 d, .bool false]] w fun e w' =>
      e = .returned (.string ⟨(keyText be.data.toList nm.data.toList a false b false c d false).toArray⟩) ∧ Below w.heap.size w w' := by
  have hil := itoa_len a ha0 ha1
  have hil2 := itoa_len b hb0 hb1
  have hil3 := itoa_len c hc0 hc1
  have hil4 := itoa_len d hd0 hd1
  obtain ⟨K, hK⟩ : ∃ K, K = w.heap.size := ⟨_, rfl⟩
  have hG := Tryd.Builder_Grow_fresh (w.heap.size + 1) (w.heap.size + 1) (be.size + 90 + nm.size) ((w.alloc (.cells #[.string be, .string nm, .int .i64 a, .bool false, .int .i64 b, .bool false, .int .i64 c, .int .i64 d, .bool false] 24)).alloc (.cells #[.pointer none, .slice none 0 0] 32)) (Nat.le_refl _) (new_second w _ _) (by simp) (by omega)
  have hbx : ((w.alloc (.cells #[.string be, .string nm, .int .i64 a, .bool false, .int .i64 b, .bool false, .int .i64 c, .int .i64 d, .bool false] 24)).alloc (.cells #[.pointer none, .slice none 0 0] 32)).heap[w.heap.size]? = some (.cells #[.string be, .string nm, .int .i64 a, .bool false, .int .i64 b, .bool false, .int .i64 c, .int .i64 d, .bool false] 24 (0, 0)) := (Lib.alloc_old _ _ _ (by simp)).trans (heap_alloc_new w _)
  have hbe : Below w.heap.size w ((w.alloc (.cells #[.string be, .string nm, .int .i64 a, .bool false, .int .i64 b, .bool false, .int .i64 c, .int .i64 d, .bool false] 24)).alloc (.cells #[.pointer none, .slice none 0 0] 32)) := ((Below.refl _ _).alloc (Nat.le_refl _) _).alloc (by simp) _
  have htb : TabB (w.heap.size + 1) ((w.alloc (.cells #[.string be, .string nm, .int .i64 a, .bool false, .int .i64 b, .bool false, .int .i64 c, .int .i64 d, .bool false] 24)).alloc (.cells #[.pointer none, .slice none 0 0] 32)) := fun w' h => htab w' (hbe.trans (h.mono (by omega)))
  have eN : (be.size : Int) + 88 + 2 + (nm.size : Int) = ((be.size + 90 + nm.size : Nat) : Int) := by omega
  have EN : Hid ((be.size : Int) + 88 + 2 + (nm.size : Int) = ((be.size + 90 + nm.size : Nat) : Int)) := eN
  have hbel : be.data.toList.length = be.size := by rw [Array.length_toList]; rfl
  have hnml : nm.data.toList.length = nm.size := by rw [Array.length_toList]; rfl
  clear eN
  go_enter Tryd.func6, Tryd.ntmps6
  go_wp2_with fail
  rw [EN.out]
  refine hG.mono ?_
  rintro e w1 ⟨rfl, h1, hb1'⟩
  have S1 : St (w.heap.size + 1) (w.heap.size + 1) w.heap.size (.cells #[.string be, .string nm, .int .i64 a, .bool false, .int .i64 b, .bool false, .int .i64 c, .int .i64 d, .bool false] 24 (0, 0)) [] _ w1 := ⟨⟨Lib.BuilderAtF.of h1, by have := hb1'.size; simp at this; omega⟩, htb.next hb1', box_next hbx hb1' (by omega), hb1'⟩
  have C1 := box_cells S1.2.2.1
  clear hG hbx htb h1 hb1'
  go_wp2_with fail
  refine (ws_any _ _ _ be w1 S1.1 (by show 0 + be.size ≤ _; omega)).mono ?_
  rintro e w2 ⟨rfl, h2, hb2, _⟩
  have S2 := S1.next (by omega) h2 hb2
  have C2 := box_cells S2.2.2.1
  have N2 : ([] ++ be.data.toList).length ≤ be.size := Nat.le_of_eq hbel
  clear S1 C1 h2 hb2
  go_wp2_with fail
  refine (ws_any _ _ _ ⟨#[45, 45]⟩ w2 S2.1 (by show _ + 2 ≤ _; omega)).mono ?_
  rintro e w3 ⟨rfl, h3, hb3, _⟩
  have N3 := len_app N2 (show (ByteArray.mk #[45, 45]).data.toList.length ≤ 2 from Nat.le_refl 2)
  have S3 := S2.next (by omega) h3 hb3
  have C3 := box_cells S3.2.2.1
  clear S2 C2 h3 hb3 N2
  go_wp2_with fail
  refine (ws_any _ _ _ nm w3 S3.1 (by omega)).mono ?_
  rintro e w4 ⟨rfl, h4, hb4, _⟩
  have N4 := len_app N3 (Nat.le_of_eq hnml)
  have S4 := S3.next (by omega) h4 hb4
  have C4 := box_cells S4.2.2.1
  clear S3 C3 h4 hb4 N3
  go_wp2_with fail
  refine (Tryd.Builder_String_any_k _ _ _ w4 (.inr S4.1.1) S4.1.2).mono ?_
  rintro e wz ⟨rfl, _, hbz, _⟩
  have hend : Below w.heap.size w wz := hbe.trans ((S4.2.2.2.trans hbz).mono (by omega))
  clear S4 C4 hbz hbe N4
  go_wp2
  go_ret
  refine ⟨?_, hend⟩
  simp [keyText]

set_option maxHeartbeats 2000000 in
set_option maxRecDepth 100000 in
theorem key_fft (be nm : ByteArray) (a b c d : Int) (w : World) (hlen : be.size + nm.size ≤ 1048576) (ha0 : -9223372036854775808 ≤ a) (ha1 : a ≤ 9223372036854775807) (hb0 : -9223372036854775808 ≤ b) (hb1 : b ≤ 9223372036854775807)
    (hc0 : -9223372036854775808 ≤ c) (hc1 : c ≤ 9223372036854775807) (hd0 : -9223372036854775808 ≤ d) (hd1 : d ≤ 9223372036854775807) (htab : TabB w.heap.size w) :
    Calls Tryd.prog 6 #[.agg #[.string be, .string nm, .int .i64 a, .bool false, .int .i64 b, .bool false, .int .i64 c, .int .i64 d, .bool true]] w fun e w' =>
      e = .returned (.string ⟨(keyText be.data.toList nm.data.toList a false b false c d true).toArray⟩) ∧ Below w.heap.size w w' := by
  have hil := itoa_len a ha0 ha1
  have hil2 := itoa_len b hb0 hb1
  have hil3 := itoa_len c hc0 hc1
  have hil4 := itoa_len d hd0 hd1
  obtain ⟨K, hK⟩ : ∃ K, K = w.heap.size := ⟨_, rfl⟩
  have hG := Tryd.Builder_Grow_fresh (w.heap.size + 1) (w.heap.size + 1) (be.size + 90 + nm.size) ((w.alloc (.cells #[.string be, .string nm, .int .i64 a, .bool false, .int .i64 b, .bool false, .int .i64 c, .int .i64 d, .bool true] 24)).alloc (.cells #[.pointer none, .slice none 0 0] 32)) (Nat.le_refl _) (new_second w _ _) (by simp) (by omega)
  have hbx : ((w.alloc (.cells #[.string be, .string nm, .int .i64 a, .bool false, .int .i64 b, .bool false, .int .i64 c, .int .i64 d, .bool true] 24)).alloc (.cells #[.pointer none, .slice none 0 0] 32)).heap[w.heap.size]? = some (.cells #[.string be, .string nm, .int .i64 a, .bool false, .int .i64 b, .bool false, .int .i64 c, .int .i64 d, .bool true] 24 (0, 0)) := (Lib.alloc_old _ _ _ (by simp)).trans (heap_alloc_new w _)
  have hbe : Below w.heap.size w ((w.alloc (.cells #[.string be, .string nm, .int .i64 a, .bool false, .int .i64 b, .bool false, .int .i64 c, .int .i64 d, .bool true] 24)).alloc (.cells #[.pointer none, .slice none 0 0] 32)) := ((Below.refl _ _).alloc (Nat.le_refl _) _).alloc (by simp) _
  have htb : TabB (w.heap.size + 1) ((w.alloc (.cells #[.string be, .string nm, .int .i64 a, .bool false, .int .i64 b, .bool false, .int .i64 c, .int .i64 d, .bool true] 24)).alloc (.cells #[.pointer none, .slice none 0 0] 32)) := fun w' h => htab w' (hbe.trans (h.mono (by omega)))
  have eN : (be.size : Int) + 88 + 2 + (nm.size : Int) = ((be.size + 90 + nm.size : Nat) : Int) := by omega
  have EN : Hid ((be.size : Int) + 88 + 2 + (nm.size : Int) = ((be.size + 90 + nm.size : Nat) : Int)) := eN
  have hbel : be.data.toList.length = be.size := by rw [Array.length_toList]; rfl
  have hnml : nm.data.toList.length = nm.size := by rw [Array.length_toList]; rfl
  clear eN
  go_enter Tryd.func6, Tryd.ntmps6
  go_wp2_with fail
  rw [EN.out]
  refine hG.mono ?_
  rintro e w1 ⟨rfl, h1, hb1'⟩
  have S1 : St (w.heap.size + 1) (w.heap.size + 1) w.heap.size (.cells #[.string be, .string nm, .int .i64 a, .bool false, .int .i64 b, .bool false, .int .i64 c, .int .i64 d, .bool true] 24 (0, 0)) [] _ w1 := ⟨⟨Lib.BuilderAtF.of h1, by have := hb1'.size; simp at this; omega⟩, htb.next hb1', box_next hbx hb1' (by omega), hb1'⟩
  have C1 := box_cells S1.2.2.1
  clear hG hbx htb h1 hb1'
  go_wp2_with fail
  refine (ws_any _ _ _ be w1 S1.1 (by show 0 + be.size ≤ _; omega)).mono ?_
  rintro e w2 ⟨rfl, h2, hb2, _⟩
  have S2 := S1.next (by omega) h2 hb2
  have C2 := box_cells S2.2.2.1
  have N2 : ([] ++ be.data.toList).length ≤ be.size := Nat.le_of_eq hbel
  clear S1 C1 h2 hb2
  go_wp2_with fail
  refine (field_any _ _ _ ⟨#[45, 83]⟩ c w2 S2.1 S2.2.1 hc0 hc1 (by show _ + 2 + 20 ≤ _; omega)).mono ?_
  rintro e w3 ⟨rfl, h3, hb3⟩
  have N3 := len_app (len_app (l' := (ByteArray.mk #[45, 83]).data.toList) N2 (show _ ≤ 2 from Nat.le_refl 2)) hil3
  have S3 := S2.next (by omega) h3 hb3
  have C3 := box_cells S3.2.2.1
  clear S2 C2 h3 hb3 N2
  go_wp2_with fail
  refine (field_any _ _ _ ⟨#[45, 67]⟩ d w3 S3.1 S3.2.1 hd0 hd1 (by show _ + 2 + 20 ≤ _; omega)).mono ?_
  rintro e w4 ⟨rfl, h4, hb4⟩
  have N4 := len_app (len_app (l' := (ByteArray.mk #[45, 67]).data.toList) N3 (show _ ≤ 2 from Nat.le_refl 2)) hil4
  have S4 := S3.next (by omega) h4 hb4
  have C4 := box_cells S4.2.2.1
  clear S3 C3 h4 hb4 N3
  go_wp2_with fail
  refine (ws_any _ _ _ ⟨#[45, 45]⟩ w4 S4.1 (by show _ + 2 ≤ _; omega)).mono ?_
  rintro e w5 ⟨rfl, h5, hb5, _⟩
  have N5 := len_app N4 (show (ByteArray.mk #[45, 45]).data.toList.length ≤ 2 from Nat.le_refl 2)
  have S5 := S4.next (by omega) h5 hb5
  have C5 := box_cells S5.2.2.1
  clear S4 C4 h5 hb5 N4
  go_wp2_with fail
  refine (ws_any _ _ _ nm w5 S5.1 (by omega)).mono ?_
  rintro e w6 ⟨rfl, h6, hb6, _⟩
  have N6 := len_app N5 (Nat.le_of_eq hnml)
  have S6 := S5.next (by omega) h6 hb6
  have C6 := box_cells S6.2.2.1
  clear S5 C5 h6 hb6 N5
  go_wp2_with fail
  refine (Tryd.Builder_String_any_k _ _ _ w6 (.inr S6.1.1) S6.1.2).mono ?_
  rintro e wz ⟨rfl, _, hbz, _⟩
  have hend : Below w.heap.size w wz := hbe.trans ((S6.2.2.2.trans hbz).mono (by omega))
  clear S6 C6 hbz hbe N6
  go_wp2
  go_ret
  refine ⟨?_, hend⟩
  simp [keyText]

set_option maxHeartbeats 2000000 in
set_option maxRecDepth 100000 in
theorem key_ftf (be nm : ByteArray) (a b c d : Int) (w : World) (hlen : be.size + nm.size ≤ 1048576) (ha0 : -9223372036854775808 ≤ a) (ha1 : a ≤ 9223372036854775807) (hb0 : -9223372036854775808 ≤ b) (hb1 : b ≤ 9223372036854775807)
    (hc0 : -9223372036854775808 ≤ c) (hc1 : c ≤ 9223372036854775807) (hd0 : -9223372036854775808 ≤ d) (hd1 : d ≤ 9223372036854775807) (htab : TabB w.heap.size w) :
    Calls Tryd.prog 6 #[.agg #[.string be, .string nm, .int .i64 a, .bool false, .int .i64 b, .bool true, .int .i64 c, .int .i64 d, .bool false]] w fun e w' =>
      e = .returned (.string ⟨(keyText be.data.toList nm.data.toList a false b true c d false).toArray⟩) ∧ Below w.heap.size w w' := by
  have hil := itoa_len a ha0 ha1
  have hil2 := itoa_len b hb0 hb1
  have hil3 := itoa_len c hc0 hc1
  have hil4 := itoa_len d hd0 hd1
  obtain ⟨K, hK⟩ : ∃ K, K = w.heap.size := ⟨_, rfl⟩
  have hG := Tryd.Builder_Grow_fresh (w.heap.size + 1) (w.heap.size + 1) (be.size + 90 + nm.size) ((w.alloc (.cells #[.string be, .string nm, .int .i64 a, .bool false, .int .i64 b, .bool true, .int .i64 c, .int .i64 d, .bool false] 24)).alloc (.cells #[.pointer none, .slice none 0 0] 32)) (Nat.le_refl _) (new_second w _ _) (by simp) (by omega)
  have hbx : ((w.alloc (.cells #[.string be, .string nm, .int .i64 a, .bool false, .int .i64 b, .bool true, .int .i64 c, .int .i64 d, .bool false] 24)).alloc (.cells #[.pointer none, .slice none 0 0] 32)).heap[w.heap.size]? = some (.cells #[.string be, .string nm, .int .i64 a, .bool false, .int .i64 b, .bool true, .int .i64 c, .int .i64 d, .bool false] 24 (0, 0)) := (Lib.alloc_old _ _ _ (by simp)).trans (heap_alloc_new w _)
  have hbe : Below w.heap.size w ((w.alloc (.cells #[.string be, .string nm, .int .i64 a, .bool false, .int .i64 b, .bool true, .int .i64 c, .int .i64 d, .bool false] 24)).alloc (.cells #[.pointer none, .slice none 0 0] 32)) := ((Below.refl _ _).alloc (Nat.le_refl _) _).alloc (by simp) _
  have htb : TabB (w.heap.size + 1) ((w.alloc (.cells #[.string be, .string nm, .int .i64 a, .bool false, .int .i64 b, .bool true, .int .i64 c, .int .i64 d, .bool false] 24)).alloc (.cells #[.pointer none, .slice none 0 0] 32)) := fun w' h => htab w' (hbe.trans (h.mono (by omega)))
  have eN : (be.size : Int) + 88 + 2 + (nm.size : Int) = ((be.size + 90 + nm.size : Nat) : Int) := by omega
  have EN : Hid ((be.size : Int) + 88 + 2 + (nm.size : Int) = ((be.size + 90 + nm.size : Nat) : Int)) := eN
  have hbel : be.data.toList.length = be.size := by rw [Array.length_toList]; rfl
  have hnml : nm.data.toList.length = nm.size := by rw [Array.length_toList]; rfl
  clear eN
  go_enter Tryd.func6, Tryd.ntmps6
  go_wp2_with fail
  rw [EN.out]
  refine hG.mono ?_
  rintro e w1 ⟨rfl, h1, hb1'⟩
  have S1 : St (w.heap.size + 1) (w.heap.size + 1) w.heap.size (.cells #[.string be, .string nm, .int .i64 a, .bool false, .int .i64 b, .bool true, .int .i64 c, .int .i64 d, .bool false] 24 (0, 0)) [] _ w1 := ⟨⟨Lib.BuilderAtF.of h1, by have := hb1'.size; simp at this; omega⟩, htb.next hb1', box_next hbx hb1' (by omega), hb1'⟩
  have C1 := box_cells S1.2.2.1
  clear hG hbx htb h1 hb1'
  go_wp2_with fail
  refine (ws_any _ _ _ be w1 S1.1 (by show 0 + be.size ≤ _; omega)).mono ?_
  rintro e w2 ⟨rfl, h2, hb2, _⟩
  have S2 := S1.next (by omega) h2 hb2
  have C2 := box_cells S2.2.2.1
  have N2 : ([] ++ be.data.toList).length ≤ be.size := Nat.le_of_eq hbel
  clear S1 C1 h2 hb2
  go_wp2_with fail
  refine (field_any _ _ _ ⟨#[45, 109]⟩ b w2 S2.1 S2.2.1 hb0 hb1 (by show _ + 2 + 20 ≤ _; omega)).mono ?_
  rintro e w3 ⟨rfl, h3, hb3⟩
  have N3 := len_app (len_app (l' := (ByteArray.mk #[45, 109]).data.toList) N2 (show _ ≤ 2 from Nat.le_refl 2)) hil2
  have S3 := S2.next (by omega) h3 hb3
  have C3 := box_cells S3.2.2.1
  clear S2 C2 h3 hb3 N2
  go_wp2_with fail
  refine (ws_any _ _ _ ⟨#[45, 45]⟩ w3 S3.1 (by show _ + 2 ≤ _; omega)).mono ?_
  rintro e w4 ⟨rfl, h4, hb4, _⟩
  have N4 := len_app N3 (show (ByteArray.mk #[45, 45]).data.toList.length ≤ 2 from Nat.le_refl 2)
  have S4 := S3.next (by omega) h4 hb4
  have C4 := box_cells S4.2.2.1
  clear S3 C3 h4 hb4 N3
  go_wp2_with fail
  refine (ws_any _ _ _ nm w4 S4.1 (by omega)).mono ?_
  rintro e w5 ⟨rfl, h5, hb5, _⟩
  have N5 := len_app N4 (Nat.le_of_eq hnml)
  have S5 := S4.next (by omega) h5 hb5
  have C5 := box_cells S5.2.2.1
  clear S4 C4 h5 hb5 N4
  go_wp2_with fail
  refine (Tryd.Builder_String_any_k _ _ _ w5 (.inr S5.1.1) S5.1.2).mono ?_
  rintro e wz ⟨rfl, _, hbz, _⟩
  have hend : Below w.heap.size w wz := hbe.trans ((S5.2.2.2.trans hbz).mono (by omega))
  clear S5 C5 hbz hbe N5
  go_wp2
  go_ret
  refine ⟨?_, hend⟩
  simp [keyText]

set_option maxHeartbeats 2000000 in
set_option maxRecDepth 100000 in
theorem key_ftt (be nm : ByteArray) (a b c d : Int) (w : World) (hlen : be.size + nm.size ≤ 1048576) (ha0 : -9223372036854775808 ≤ a) (ha1 : a ≤ 9223372036854775807) (hb0 : -9223372036854775808 ≤ b) (hb1 : b ≤ 9223372036854775807)
    (hc0 : -9223372036854775808 ≤ c) (hc1 : c ≤ 9223372036854775807) (hd0 : -9223372036854775808 ≤ d) (hd1 : d ≤ 9223372036854775807) (htab : TabB w.heap.size w) :
    Calls Tryd.prog 6 #[.agg #[.string be, .string nm, .int .i64 a, .bool false, .int .i64 b, .bool true, .int .i64 c, .int .i64 d, .bool true]] w fun e w' =>
      e = .returned (.string ⟨(keyText be.data.toList nm.data.toList a false b true c d true).toArray⟩) ∧ Below w.heap.size w w' := by
  have hil := itoa_len a ha0 ha1
  have hil2 := itoa_len b hb0 hb1
  have hil3 := itoa_len c hc0 hc1
  have hil4 := itoa_len d hd0 hd1
  obtain ⟨K, hK⟩ : ∃ K, K = w.heap.size := ⟨_, rfl⟩
  have hG := Tryd.Builder_Grow_fresh (w.heap.size + 1) (w.heap.size + 1) (be.size + 90 + nm.size) ((w.alloc (.cells #[.string be, .string nm, .int .i64 a, .bool false, .int .i64 b, .bool true, .int .i64 c, .int .i64 d, .bool true] 24)).alloc (.cells #[.pointer none, .slice none 0 0] 32)) (Nat.le_refl _) (new_second w _ _) (by simp) (by omega)
  have hbx : ((w.alloc (.cells #[.string be, .string nm, .int .i64 a, .bool false, .int .i64 b, .bool true, .int .i64 c, .int .i64 d, .bool true] 24)).alloc (.cells #[.pointer none, .slice none 0 0] 32)).heap[w.heap.size]? = some (.cells #[.string be, .string nm, .int .i64 a, .bool false, .int .i64 b, .bool true, .int .i64 c, .int .i64 d, .bool true] 24 (0, 0)) := (Lib.alloc_old _ _ _ (by simp)).trans (heap_alloc_new w _)
  have hbe : Below w.heap.size w ((w.alloc (.cells #[.string be, .string nm, .int .i64 a, .bool false, .int .i64 b, .bool true, .int .i64 c, .int .i64 d, .bool true] 24)).alloc (.cells #[.pointer none, .slice none 0 0] 32)) := ((Below.refl _ _).alloc (Nat.le_refl _) _).alloc (by simp) _
  have htb : TabB (w.heap.size + 1) ((w.alloc (.cells #[.string be, .string nm, .int .i64 a, .bool false, .int .i64 b, .bool true, .int .i64 c, .int .i64 d, .bool true] 24)).alloc (.cells #[.pointer none, .slice none 0 0] 32)) := fun w' h => htab w' (hbe.trans (h.mono (by omega)))
  have eN : (be.size : Int) + 88 + 2 + (nm.size : Int) = ((be.size + 90 + nm.size : Nat) : Int) := by omega
  have EN : Hid ((be.size : Int) + 88 + 2 + (nm.size : Int) = ((be.size + 90 + nm.size : Nat) : Int)) := eN
  have hbel : be.data.toList.length = be.size := by rw [Array.length_toList]; rfl
  have hnml : nm.data.toList.length = nm.size := by rw [Array.length_toList]; rfl
  clear eN
  go_enter Tryd.func6, Tryd.ntmps6
  go_wp2_with fail
  rw [EN.out]
  refine hG.mono ?_
  rintro e w1 ⟨rfl, h1, hb1'⟩
  have S1 : St (w.heap.size + 1) (w.heap.size + 1) w.heap.size (.cells #[.string be, .string nm, .int .i64 a, .bool false, .int .i64 b, .bool true, .int .i64 c, .int .i64 d, .bool true] 24 (0, 0)) [] _ w1 := ⟨⟨Lib.BuilderAtF.of h1, by have := hb1'.size; simp at this; omega⟩, htb.next hb1', box_next hbx hb1' (by omega), hb1'⟩
  have C1 := box_cells S1.2.2.1
  clear hG hbx htb h1 hb1'
  go_wp2_with fail
  refine (ws_any _ _ _ be w1 S1.1 (by show 0 + be.size ≤ _; omega)).mono ?_
  rintro e w2 ⟨rfl, h2, hb2, _⟩
  have S2 := S1.next (by omega) h2 hb2
  have C2 := box_cells S2.2.2.1
  have N2 : ([] ++ be.data.toList).length ≤ be.size := Nat.le_of_eq hbel
  clear S1 C1 h2 hb2
  go_wp2_with fail
  refine (field_any _ _ _ ⟨#[45, 109]⟩ b w2 S2.1 S2.2.1 hb0 hb1 (by show _ + 2 + 20 ≤ _; omega)).mono ?_
  rintro e w3 ⟨rfl, h3, hb3⟩
  have N3 := len_app (len_app (l' := (ByteArray.mk #[45, 109]).data.toList) N2 (show _ ≤ 2 from Nat.le_refl 2)) hil2
  have S3 := S2.next (by omega) h3 hb3
  have C3 := box_cells S3.2.2.1
  clear S2 C2 h3 hb3 N2
  go_wp2_with fail
  refine (field_any _ _ _ ⟨#[45, 83]⟩ c w3 S3.1 S3.2.1 hc0 hc1 (by show _ + 2 + 20 ≤ _; omega)).mono ?_
  rintro e w4 ⟨rfl, h4, hb4⟩
  have N4 := len_app (len_app (l' := (ByteArray.mk #[45, 83]).data.toList) N3 (show _ ≤ 2 from Nat.le_refl 2)) hil3
  have S4 := S3.next (by omega) h4 hb4
  have C4 := box_cells S4.2.2.1
  clear S3 C3 h4 hb4 N3
  go_wp2_with fail
  refine (field_any _ _ _ ⟨#[45, 67]⟩ d w4 S4.1 S4.2.1 hd0 hd1 (by show _ + 2 + 20 ≤ _; omega)).mono ?_
  rintro e w5 ⟨rfl, h5, hb5⟩
  have N5 := len_app (len_app (l' := (ByteArray.mk #[45, 67]).data.toList) N4 (show _ ≤ 2 from Nat.le_refl 2)) hil4
  have S5 := S4.next (by omega) h5 hb5
  have C5 := box_cells S5.2.2.1
  clear S4 C4 h5 hb5 N4
  go_wp2_with fail
  refine (ws_any _ _ _ ⟨#[45, 45]⟩ w5 S5.1 (by show _ + 2 ≤ _; omega)).mono ?_
  rintro e w6 ⟨rfl, h6, hb6, _⟩
  have N6 := len_app N5 (show (ByteArray.mk #[45, 45]).data.toList.length ≤ 2 from Nat.le_refl 2)
  have S6 := S5.next (by omega) h6 hb6
  have C6 := box_cells S6.2.2.1
  clear S5 C5 h6 hb6 N5
  go_wp2_with fail
  refine (ws_any _ _ _ nm w6 S6.1 (by omega)).mono ?_
  rintro e w7 ⟨rfl, h7, hb7, _⟩
  have N7 := len_app N6 (Nat.le_of_eq hnml)
  have S7 := S6.next (by omega) h7 hb7
  have C7 := box_cells S7.2.2.1
  clear S6 C6 h7 hb7 N6
  go_wp2_with fail
  refine (Tryd.Builder_String_any_k _ _ _ w7 (.inr S7.1.1) S7.1.2).mono ?_
  rintro e wz ⟨rfl, _, hbz, _⟩
  have hend : Below w.heap.size w wz := hbe.trans ((S7.2.2.2.trans hbz).mono (by omega))
  clear S7 C7 hbz hbe N7
  go_wp2
  go_ret
  refine ⟨?_, hend⟩
  simp [keyText]

set_option maxHeartbeats 2000000 in
set_option maxRecDepth 100000 in
theorem key_tff (be nm : ByteArray) (a b c d : Int) (w : World) (hlen : be.size + nm.size ≤ 1048576) (ha0 : -9223372036854775808 ≤ a) (ha1 : a ≤ 9223372036854775807) (hb0 : -9223372036854775808 ≤ b) (hb1 : b ≤ 9223372036854775807)
    (hc0 : -9223372036854775808 ≤ c) (hc1 : c ≤ 9223372036854775807) (hd0 : -9223372036854775808 ≤ d) (hd1 : d ≤ 9223372036854775807) (htab : TabB w.heap.size w) :
    Calls Tryd.prog 6 #[.agg #[.string be, .string nm, .int .i64 a, .bool true, .int .i64 b, .bool false, .int .i64 c, .int .i64 d, .bool false]] w fun e w' =>
      e = .returned (.string ⟨(keyText be.data.toList nm.data.toList a true b false c d false).toArray⟩) ∧ Below w.heap.size w w' := by
  have hil := itoa_len a ha0 ha1
  have hil2 := itoa_len b hb0 hb1
  have hil3 := itoa_len c hc0 hc1
  have hil4 := itoa_len d hd0 hd1
  obtain ⟨K, hK⟩ : ∃ K, K = w.heap.size := ⟨_, rfl⟩
  have hG := Tryd.Builder_Grow_fresh (w.heap.size + 1) (w.heap.size + 1) (be.size + 90 + nm.size) ((w.alloc (.cells #[.string be, .string nm, .int .i64 a, .bool true, .int .i64 b, .bool false, .int .i64 c, .int .i64 d, .bool false] 24)).alloc (.cells #[.pointer none, .slice none 0 0] 32)) (Nat.le_refl _) (new_second w _ _) (by simp) (by omega)
  have hbx : ((w.alloc (.cells #[.string be, .string nm, .int .i64 a, .bool true, .int .i64 b, .bool false, .int .i64 c, .int .i64 d, .bool false] 24)).alloc (.cells #[.pointer none, .slice none 0 0] 32)).heap[w.heap.size]? = some (.cells #[.string be, .string nm, .int .i64 a, .bool true, .int .i64 b, .bool false, .int .i64 c, .int .i64 d, .bool false] 24 (0, 0)) := (Lib.alloc_old _ _ _ (by simp)).trans (heap_alloc_new w _)
  have hbe : Below w.heap.size w ((w.alloc (.cells #[.string be, .string nm, .int .i64 a, .bool true, .int .i64 b, .bool false, .int .i64 c, .int .i64 d, .bool false] 24)).alloc (.cells #[.pointer none, .slice none 0 0] 32)) := ((Below.refl _ _).alloc (Nat.le_refl _) _).alloc (by simp) _
  have htb : TabB (w.heap.size + 1) ((w.alloc (.cells #[.string be, .string nm, .int .i64 a, .bool true, .int .i64 b, .bool false, .int .i64 c, .int .i64 d, .bool false] 24)).alloc (.cells #[.pointer none, .slice none 0 0] 32)) := fun w' h => htab w' (hbe.trans (h.mono (by omega)))
  have eN : (be.size : Int) + 88 + 2 + (nm.size : Int) = ((be.size + 90 + nm.size : Nat) : Int) := by omega
  have EN : Hid ((be.size : Int) + 88 + 2 + (nm.size : Int) = ((be.size + 90 + nm.size : Nat) : Int)) := eN
  have hbel : be.data.toList.length = be.size := by rw [Array.length_toList]; rfl
  have hnml : nm.data.toList.length = nm.size := by rw [Array.length_toList]; rfl
  clear eN
  go_enter Tryd.func6, Tryd.ntmps6
  go_wp2_with fail
  rw [EN.out]
  refine hG.mono ?_
  rintro e w1 ⟨rfl, h1, hb1'⟩
  have S1 : St (w.heap.size + 1) (w.heap.size + 1) w.heap.size (.cells #[.string be, .string nm, .int .i64 a, .bool true, .int .i64 b, .bool false, .int .i64 c, .int .i64 d, .bool false] 24 (0, 0)) [] _ w1 := ⟨⟨Lib.BuilderAtF.of h1, by have := hb1'.size; simp at this; omega⟩, htb.next hb1', box_next hbx hb1' (by omega), hb1'⟩
  have C1 := box_cells S1.2.2.1
  clear hG hbx htb h1 hb1'
  go_wp2_with fail
  refine (ws_any _ _ _ be w1 S1.1 (by show 0 + be.size ≤ _; omega)).mono ?_
  rintro e w2 ⟨rfl, h2, hb2, _⟩
  have S2 := S1.next (by omega) h2 hb2
  have C2 := box_cells S2.2.2.1
  have N2 : ([] ++ be.data.toList).length ≤ be.size := Nat.le_of_eq hbel
  clear S1 C1 h2 hb2
  go_wp2_with fail
  refine (field_any _ _ _ ⟨#[45, 115]⟩ a w2 S2.1 S2.2.1 ha0 ha1 (by show _ + 2 + 20 ≤ _; omega)).mono ?_
  rintro e w3 ⟨rfl, h3, hb3⟩
  have N3 := len_app (len_app (l' := (ByteArray.mk #[45, 115]).data.toList) N2 (show _ ≤ 2 from Nat.le_refl 2)) hil
  have S3 := S2.next (by omega) h3 hb3
  have C3 := box_cells S3.2.2.1
  clear S2 C2 h3 hb3 N2
  go_wp2_with fail
  refine (ws_any _ _ _ ⟨#[45, 45]⟩ w3 S3.1 (by show _ + 2 ≤ _; omega)).mono ?_
  rintro e w4 ⟨rfl, h4, hb4, _⟩
  have N4 := len_app N3 (show (ByteArray.mk #[45, 45]).data.toList.length ≤ 2 from Nat.le_refl 2)
  have S4 := S3.next (by omega) h4 hb4
  have C4 := box_cells S4.2.2.1
  clear S3 C3 h4 hb4 N3
  go_wp2_with fail
  refine (ws_any _ _ _ nm w4 S4.1 (by omega)).mono ?_
  rintro e w5 ⟨rfl, h5, hb5, _⟩
  have N5 := len_app N4 (Nat.le_of_eq hnml)
  have S5 := S4.next (by omega) h5 hb5
  have C5 := box_cells S5.2.2.1
  clear S4 C4 h5 hb5 N4
  go_wp2_with fail
  refine (Tryd.Builder_String_any_k _ _ _ w5 (.inr S5.1.1) S5.1.2).mono ?_
  rintro e wz ⟨rfl, _, hbz, _⟩
  have hend : Below w.heap.size w wz := hbe.trans ((S5.2.2.2.trans hbz).mono (by omega))
  clear S5 C5 hbz hbe N5
  go_wp2
  go_ret
  refine ⟨?_, hend⟩
  simp [keyText]

set_option maxHeartbeats 2000000 in
set_option maxRecDepth 100000 in
theorem key_tft (be nm : ByteArray) (a b c d : Int) (w : World) (hlen : be.size + nm.size ≤ 1048576) (ha0 : -9223372036854775808 ≤ a) (ha1 : a ≤ 9223372036854775807) (hb0 : -9223372036854775808 ≤ b) (hb1 : b ≤ 9223372036854775807)
    (hc0 : -9223372036854775808 ≤ c) (hc1 : c ≤ 9223372036854775807) (hd0 : -9223372036854775808 ≤ d) (hd1 : d ≤ 9223372036854775807) (htab : TabB w.heap.size w) :
    Calls Tryd.prog 6 #[.agg #[.string be, .string nm, .int .i64 a, .bool true, .int .i64 b, .bool false, .int .i64 c, .int .i64 d, .bool true]] w fun e w' =>
      e = .returned (.string ⟨(keyText be.data.toList nm.data.toList a true b false c d true).toArray⟩) ∧ Below w.heap.size w w' := by
  have hil := itoa_len a ha0 ha1
  have hil2 := itoa_len b hb0 hb1
  have hil3 := itoa_len c hc0 hc1
  have hil4 := itoa_len d hd0 hd1
  obtain ⟨K, hK⟩ : ∃ K, K = w.heap.size := ⟨_, rfl⟩
  have hG := Tryd.Builder_Grow_fresh (w.heap.size + 1) (w.heap.size + 1) (be.size + 90 + nm.size) ((w.alloc (.cells #[.string be, .string nm, .int .i64 a, .bool true, .int .i64 b, .bool false, .int .i64 c, .int .i64 d, .bool true] 24)).alloc (.cells #[.pointer none, .slice none 0 0] 32)) (Nat.le_refl _) (new_second w _ _) (by simp) (by omega)
  have hbx : ((w.alloc (.cells #[.string be, .string nm, .int .i64 a, .bool true, .int .i64 b, .bool false, .int .i64 c, .int .i64 d, .bool true] 24)).alloc (.cells #[.pointer none, .slice none 0 0] 32)).heap[w.heap.size]? = some (.cells #[.string be, .string nm, .int .i64 a, .bool true, .int .i64 b, .bool false, .int .i64 c, .int .i64 d, .bool true] 24 (0, 0)) := (Lib.alloc_old _ _ _ (by simp)).trans (heap_alloc_new w _)
  have hbe : Below w.heap.size w ((w.alloc (.cells #[.string be, .string nm, .int .i64 a, .bool true, .int .i64 b, .bool false, .int .i64 c, .int .i64 d, .bool true] 24)).alloc (.cells #[.pointer none, .slice none 0 0] 32)) := ((Below.refl _ _).alloc (Nat.le_refl _) _).alloc (by simp) _
  have htb : TabB (w.heap.size + 1) ((w.alloc (.cells #[.string be, .string nm, .int .i64 a, .bool true, .int .i64 b, .bool false, .int .i64 c, .int .i64 d, .bool true] 24)).alloc (.cells #[.pointer none, .slice none 0 0] 32)) := fun w' h => htab w' (hbe.trans (h.mono (by omega)))
  have eN : (be.size : Int) + 88 + 2 + (nm.size : Int) = ((be.size + 90 + nm.size : Nat) : Int) := by omega
  have EN : Hid ((be.size : Int) + 88 + 2 + (nm.size : Int) = ((be.size + 90 + nm.size : Nat) : Int)) := eN
  have hbel : be.data.toList.length = be.size := by rw [Array.length_toList]; rfl
  have hnml : nm.data.toList.length = nm.size := by rw [Array.length_toList]; rfl
  clear eN
  go_enter Tryd.func6, Tryd.ntmps6
  go_wp2_with fail
  rw [EN.out]
  refine hG.mono ?_
  rintro e w1 ⟨rfl, h1, hb1'⟩
  have S1 : St (w.heap.size + 1) (w.heap.size + 1) w.heap.size (.cells #[.string be, .string nm, .int .i64 a, .bool true, .int .i64 b, .bool false, .int .i64 c, .int .i64 d, .bool true] 24 (0, 0)) [] _ w1 := ⟨⟨Lib.BuilderAtF.of h1, by have := hb1'.size; simp at this; omega⟩, htb.next hb1', box_next hbx hb1' (by omega), hb1'⟩
  have C1 := box_cells S1.2.2.1
  clear hG hbx htb h1 hb1'
  go_wp2_with fail
  refine (ws_any _ _ _ be w1 S1.1 (by show 0 + be.size ≤ _; omega)).mono ?_
  rintro e w2 ⟨rfl, h2, hb2, _⟩
  have S2 := S1.next (by omega) h2 hb2
  have C2 := box_cells S2.2.2.1
  have N2 : ([] ++ be.data.toList).length ≤ be.size := Nat.le_of_eq hbel
  clear S1 C1 h2 hb2
  go_wp2_with fail
  refine (field_any _ _ _ ⟨#[45, 115]⟩ a w2 S2.1 S2.2.1 ha0 ha1 (by show _ + 2 + 20 ≤ _; omega)).mono ?_
  rintro e w3 ⟨rfl, h3, hb3⟩
  have N3 := len_app (len_app (l' := (ByteArray.mk #[45, 115]).data.toList) N2 (show _ ≤ 2 from Nat.le_refl 2)) hil
  have S3 := S2.next (by omega) h3 hb3
  have C3 := box_cells S3.2.2.1
  clear S2 C2 h3 hb3 N2
  go_wp2_with fail
  refine (field_any _ _ _ ⟨#[45, 83]⟩ c w3 S3.1 S3.2.1 hc0 hc1 (by show _ + 2 + 20 ≤ _; omega)).mono ?_
  rintro e w4 ⟨rfl, h4, hb4⟩
  have N4 := len_app (len_app (l' := (ByteArray.mk #[45, 83]).data.toList) N3 (show _ ≤ 2 from Nat.le_refl 2)) hil3
  have S4 := S3.next (by omega) h4 hb4
  have C4 := box_cells S4.2.2.1
  clear S3 C3 h4 hb4 N3
  go_wp2_with fail
  refine (field_any _ _ _ ⟨#[45, 67]⟩ d w4 S4.1 S4.2.1 hd0 hd1 (by show _ + 2 + 20 ≤ _; omega)).mono ?_
  rintro e w5 ⟨rfl, h5, hb5⟩
  have N5 := len_app (len_app (l' := (ByteArray.mk #[45, 67]).data.toList) N4 (show _ ≤ 2 from Nat.le_refl 2)) hil4
  have S5 := S4.next (by omega) h5 hb5
  have C5 := box_cells S5.2.2.1
  clear S4 C4 h5 hb5 N4
  go_wp2_with fail
  refine (ws_any _ _ _ ⟨#[45, 45]⟩ w5 S5.1 (by show _ + 2 ≤ _; omega)).mono ?_
  rintro e w6 ⟨rfl, h6, hb6, _⟩
  have N6 := len_app N5 (show (ByteArray.mk #[45, 45]).data.toList.length ≤ 2 from Nat.le_refl 2)
  have S6 := S5.next (by omega) h6 hb6
  have C6 := box_cells S6.2.2.1
  clear S5 C5 h6 hb6 N5
  go_wp2_with fail
  refine (ws_any _ _ _ nm w6 S6.1 (by omega)).mono ?_
  rintro e w7 ⟨rfl, h7, hb7, _⟩
  have N7 := len_app N6 (Nat.le_of_eq hnml)
  have S7 := S6.next (by omega) h7 hb7
  have C7 := box_cells S7.2.2.1
  clear S6 C6 h7 hb7 N6
  go_wp2_with fail
  refine (Tryd.Builder_String_any_k _ _ _ w7 (.inr S7.1.1) S7.1.2).mono ?_
  rintro e wz ⟨rfl, _, hbz, _⟩
  have hend : Below w.heap.size w wz := hbe.trans ((S7.2.2.2.trans hbz).mono (by omega))
  clear S7 C7 hbz hbe N7
  go_wp2
  go_ret
  refine ⟨?_, hend⟩
  simp [keyText]

set_option maxHeartbeats 2000000 in
set_option maxRecDepth 100000 in
theorem key_ttf (be nm : ByteArray) (a b c d : Int) (w : World) (hlen : be.size + nm.size ≤ 1048576) (ha0 : -9223372036854775808 ≤ a) (ha1 : a ≤ 9223372036854775807) (hb0 : -9223372036854775808 ≤ b) (hb1 : b ≤ 9223372036854775807)
    (hc0 : -9223372036854775808 ≤ c) (hc1 : c ≤ 9223372036854775807) (hd0 : -9223372036854775808 ≤ d) (hd1 : d ≤ 9223372036854775807) (htab : TabB w.heap.size w) :
    Calls Tryd.prog 6 #[.agg #[.string be, .string nm, .int .i64 a, .bool true, .int .i64 b, .bool true, .int .i64 c, .int .i64 d, .bool false]] w fun e w' =>
      e = .returned (.string ⟨(keyText be.data.toList nm.data.toList a true b true c d false).toArray⟩) ∧ Below w.heap.size w w' := by
  have hil := itoa_len a ha0 ha1
  have hil2 := itoa_len b hb0 hb1
  have hil3 := itoa_len c hc0 hc1
  have hil4 := itoa_len d hd0 hd1
  obtain ⟨K, hK⟩ : ∃ K, K = w.heap.size := ⟨_, rfl⟩
  have hG := Tryd.Builder_Grow_fresh (w.heap.size + 1) (w.heap.size + 1) (be.size + 90 + nm.size) ((w.alloc (.cells #[.string be, .string nm, .int .i64 a, .bool true, .int .i64 b, .bool true, .int .i64 c, .int .i64 d, .bool false] 24)).alloc (.cells #[.pointer none, .slice none 0 0] 32)) (Nat.le_refl _) (new_second w _ _) (by simp) (by omega)
  have hbx : ((w.alloc (.cells #[.string be, .string nm, .int .i64 a, .bool true, .int .i64 b, .bool true, .int .i64 c, .int .i64 d, .bool false] 24)).alloc (.cells #[.pointer none, .slice none 0 0] 32)).heap[w.heap.size]? = some (.cells #[.string be, .string nm, .int .i64 a, .bool true, .int .i64 b, .bool true, .int .i64 c, .int .i64 d, .bool false] 24 (0, 0)) := (Lib.alloc_old _ _ _ (by simp)).trans (heap_alloc_new w _)
  have hbe : Below w.heap.size w ((w.alloc (.cells #[.string be, .string nm, .int .i64 a, .bool true, .int .i64 b, .bool true, .int .i64 c, .int .i64 d, .bool false] 24)).alloc (.cells #[.pointer none, .slice none 0 0] 32)) := ((Below.refl _ _).alloc (Nat.le_refl _) _).alloc (by simp) _
  have htb : TabB (w.heap.size + 1) ((w.alloc (.cells #[.string be, .string nm, .int .i64 a, .bool true, .int .i64 b, .bool true, .int .i64 c, .int .i64 d, .bool false] 24)).alloc (.cells #[.pointer none, .slice none 0 0] 32)) := fun w' h => htab w' (hbe.trans (h.mono (by omega)))
  have eN : (be.size : Int) + 88 + 2 + (nm.size : Int) = ((be.size + 90 + nm.size : Nat) : Int) := by omega
  have EN : Hid ((be.size : Int) + 88 + 2 + (nm.size : Int) = ((be.size + 90 + nm.size : Nat) : Int)) := eN
  have hbel : be.data.toList.length = be.size := by rw [Array.length_toList]; rfl
  have hnml : nm.data.toList.length = nm.size := by rw [Array.length_toList]; rfl
  clear eN
  go_enter Tryd.func6, Tryd.ntmps6
  go_wp2_with fail
  rw [EN.out]
  refine hG.mono ?_
  rintro e w1 ⟨rfl, h1, hb1'⟩
  have S1 : St (w.heap.size + 1) (w.heap.size + 1) w.heap.size (.cells #[.string be, .string nm, .int .i64 a, .bool true, .int .i64 b, .bool true, .int .i64 c, .int .i64 d, .bool false] 24 (0, 0)) [] _ w1 := ⟨⟨Lib.BuilderAtF.of h1, by have := hb1'.size; simp at this; omega⟩, htb.next hb1', box_next hbx hb1' (by omega), hb1'⟩
  have C1 := box_cells S1.2.2.1
  clear hG hbx htb h1 hb1'
  go_wp2_with fail
  refine (ws_any _ _ _ be w1 S1.1 (by show 0 + be.size ≤ _; omega)).mono ?_
  rintro e w2 ⟨rfl, h2, hb2, _⟩
  have S2 := S1.next (by omega) h2 hb2
  have C2 := box_cells S2.2.2.1
  have N2 : ([] ++ be.data.toList).length ≤ be.size := Nat.le_of_eq hbel
  clear S1 C1 h2 hb2
  go_wp2_with fail
  refine (field_any _ _ _ ⟨#[45, 115]⟩ a w2 S2.1 S2.2.1 ha0 ha1 (by show _ + 2 + 20 ≤ _; omega)).mono ?_
  rintro e w3 ⟨rfl, h3, hb3⟩
  have N3 := len_app (len_app (l' := (ByteArray.mk #[45, 115]).data.toList) N2 (show _ ≤ 2 from Nat.le_refl 2)) hil
  have S3 := S2.next (by omega) h3 hb3
  have C3 := box_cells S3.2.2.1
  clear S2 C2 h3 hb3 N2
  go_wp2_with fail
  refine (field_any _ _ _ ⟨#[45, 109]⟩ b w3 S3.1 S3.2.1 hb0 hb1 (by show _ + 2 + 20 ≤ _; omega)).mono ?_
  rintro e w4 ⟨rfl, h4, hb4⟩
  have N4 := len_app (len_app (l' := (ByteArray.mk #[45, 109]).data.toList) N3 (show _ ≤ 2 from Nat.le_refl 2)) hil2
  have S4 := S3.next (by omega) h4 hb4
  have C4 := box_cells S4.2.2.1
  clear S3 C3 h4 hb4 N3
  go_wp2_with fail
  refine (ws_any _ _ _ ⟨#[45, 45]⟩ w4 S4.1 (by show _ + 2 ≤ _; omega)).mono ?_
  rintro e w5 ⟨rfl, h5, hb5, _⟩
  have N5 := len_app N4 (show (ByteArray.mk #[45, 45]).data.toList.length ≤ 2 from Nat.le_refl 2)
  have S5 := S4.next (by omega) h5 hb5
  have C5 := box_cells S5.2.2.1
  clear S4 C4 h5 hb5 N4
  go_wp2_with fail
  refine (ws_any _ _ _ nm w5 S5.1 (by omega)).mono ?_
  rintro e w6 ⟨rfl, h6, hb6, _⟩
  have N6 := len_app N5 (Nat.le_of_eq hnml)
  have S6 := S5.next (by omega) h6 hb6
  have C6 := box_cells S6.2.2.1
  clear S5 C5 h6 hb6 N5
  go_wp2_with fail
  refine (Tryd.Builder_String_any_k _ _ _ w6 (.inr S6.1.1) S6.1.2).mono ?_
  rintro e wz ⟨rfl, _, hbz, _⟩
  have hend : Below w.heap.size w wz := hbe.trans ((S6.2.2.2.trans hbz).mono (by omega))
  clear S6 C6 hbz hbe N6
  go_wp2
  go_ret
  refine ⟨?_, hend⟩
  simp [keyText]

set_option maxHeartbeats 2000000 in
set_option maxRecDepth 100000 in
theorem key_ttt (be nm : ByteArray) (a b c d : Int) (w : World) (hlen : be.size + nm.size ≤ 1048576) (ha0 : -9223372036854775808 ≤ a) (ha1 : a ≤ 9223372036854775807) (hb0 : -9223372036854775808 ≤ b) (hb1 : b ≤ 9223372036854775807)
    (hc0 : -9223372036854775808 ≤ c) (hc1 : c ≤ 9223372036854775807) (hd0 : -9223372036854775808 ≤ d) (hd1 : d ≤ 9223372036854775807) (htab : TabB w.heap.size w) :
    Calls Tryd.prog 6 #[.agg #[.string be, .string nm, .int .i64 a, .bool true, .int .i64 b, .bool true, .int .i64 c, .int .i64 d, .bool true]] w fun e w' =>
      e = .returned (.string ⟨(keyText be.data.toList nm.data.toList a true b true c d true).toArray⟩) ∧ Below w.heap.size w w' := by
  have hil := itoa_len a ha0 ha1
  have hil2 := itoa_len b hb0 hb1
  have hil3 := itoa_len c hc0 hc1
  have hil4 := itoa_len d hd0 hd1
  obtain ⟨K, hK⟩ : ∃ K, K = w.heap.size := ⟨_, rfl⟩
  have hG := Tryd.Builder_Grow_fresh (w.heap.size + 1) (w.heap.size + 1) (be.size + 90 + nm.size) ((w.alloc (.cells #[.string be, .string nm, .int .i64 a, .bool true, .int .i64 b, .bool true, .int .i64 c, .int .i64 d, .bool true] 24)).alloc (.cells #[.pointer none, .slice none 0 0] 32)) (Nat.le_refl _) (new_second w _ _) (by simp) (by omega)
  have hbx : ((w.alloc (.cells #[.string be, .string nm, .int .i64 a, .bool true, .int .i64 b, .bool true, .int .i64 c, .int .i64 d, .bool true] 24)).alloc (.cells #[.pointer none, .slice none 0 0] 32)).heap[w.heap.size]? = some (.cells #[.string be, .string nm, .int .i64 a, .bool true, .int .i64 b, .bool true, .int .i64 c, .int .i64 d, .bool true] 24 (0, 0)) := (Lib.alloc_old _ _ _ (by simp)).trans (heap_alloc_new w _)
  have hbe : Below w.heap.size w ((w.alloc (.cells #[.string be, .string nm, .int .i64 a, .bool true, .int .i64 b, .bool true, .int .i64 c, .int .i64 d, .bool true] 24)).alloc (.cells #[.pointer none, .slice none 0 0] 32)) := ((Below.refl _ _).alloc (Nat.le_refl _) _).alloc (by simp) _
  have htb : TabB (w.heap.size + 1) ((w.alloc (.cells #[.string be, .string nm, .int .i64 a, .bool true, .int .i64 b, .bool true, .int .i64 c, .int .i64 d, .bool true] 24)).alloc (.cells #[.pointer none, .slice none 0 0] 32)) := fun w' h => htab w' (hbe.trans (h.mono (by omega)))
  have eN : (be.size : Int) + 88 + 2 + (nm.size : Int) = ((be.size + 90 + nm.size : Nat) : Int) := by omega
  have EN : Hid ((be.size : Int) + 88 + 2 + (nm.size : Int) = ((be.size + 90 + nm.size : Nat) : Int)) := eN
  have hbel : be.data.toList.length = be.size := by rw [Array.length_toList]; rfl
  have hnml : nm.data.toList.length = nm.size := by rw [Array.length_toList]; rfl
  clear eN
  go_enter Tryd.func6, Tryd.ntmps6
  go_wp2_with fail
  rw [EN.out]
  refine hG.mono ?_
  rintro e w1 ⟨rfl, h1, hb1'⟩
  have S1 : St (w.heap.size + 1) (w.heap.size + 1) w.heap.size (.cells #[.string be, .string nm, .int .i64 a, .bool true, .int .i64 b, .bool true, .int .i64 c, .int .i64 d, .bool true] 24 (0, 0)) [] _ w1 := ⟨⟨Lib.BuilderAtF.of h1, by have := hb1'.size; simp at this; omega⟩, htb.next hb1', box_next hbx hb1' (by omega), hb1'⟩
  have C1 := box_cells S1.2.2.1
  clear hG hbx htb h1 hb1'
  go_wp2_with fail
  refine (ws_any _ _ _ be w1 S1.1 (by show 0 + be.size ≤ _; omega)).mono ?_
  rintro e w2 ⟨rfl, h2, hb2, _⟩
  have S2 := S1.next (by omega) h2 hb2
  have C2 := box_cells S2.2.2.1
  have N2 : ([] ++ be.data.toList).length ≤ be.size := Nat.le_of_eq hbel
  clear S1 C1 h2 hb2
  go_wp2_with fail
  refine (field_any _ _ _ ⟨#[45, 115]⟩ a w2 S2.1 S2.2.1 ha0 ha1 (by show _ + 2 + 20 ≤ _; omega)).mono ?_
  rintro e w3 ⟨rfl, h3, hb3⟩
  have N3 := len_app (len_app (l' := (ByteArray.mk #[45, 115]).data.toList) N2 (show _ ≤ 2 from Nat.le_refl 2)) hil
  have S3 := S2.next (by omega) h3 hb3
  have C3 := box_cells S3.2.2.1
  clear S2 C2 h3 hb3 N2
  go_wp2_with fail
  refine (field_any _ _ _ ⟨#[45, 109]⟩ b w3 S3.1 S3.2.1 hb0 hb1 (by show _ + 2 + 20 ≤ _; omega)).mono ?_
  rintro e w4 ⟨rfl, h4, hb4⟩
  have N4 := len_app (len_app (l' := (ByteArray.mk #[45, 109]).data.toList) N3 (show _ ≤ 2 from Nat.le_refl 2)) hil2
  have S4 := S3.next (by omega) h4 hb4
  have C4 := box_cells S4.2.2.1
  clear S3 C3 h4 hb4 N3
  go_wp2_with fail
  refine (field_any _ _ _ ⟨#[45, 83]⟩ c w4 S4.1 S4.2.1 hc0 hc1 (by show _ + 2 + 20 ≤ _; omega)).mono ?_
  rintro e w5 ⟨rfl, h5, hb5⟩
  have N5 := len_app (len_app (l' := (ByteArray.mk #[45, 83]).data.toList) N4 (show _ ≤ 2 from Nat.le_refl 2)) hil3
  have S5 := S4.next (by omega) h5 hb5
  have C5 := box_cells S5.2.2.1
  clear S4 C4 h5 hb5 N4
  go_wp2_with fail
  refine (field_any _ _ _ ⟨#[45, 67]⟩ d w5 S5.1 S5.2.1 hd0 hd1 (by show _ + 2 + 20 ≤ _; omega)).mono ?_
  rintro e w6 ⟨rfl, h6, hb6⟩
  have N6 := len_app (len_app (l' := (ByteArray.mk #[45, 67]).data.toList) N5 (show _ ≤ 2 from Nat.le_refl 2)) hil4
  have S6 := S5.next (by omega) h6 hb6
  have C6 := box_cells S6.2.2.1
  clear S5 C5 h6 hb6 N5
  go_wp2_with fail
  refine (ws_any _ _ _ ⟨#[45, 45]⟩ w6 S6.1 (by show _ + 2 ≤ _; omega)).mono ?_
  rintro e w7 ⟨rfl, h7, hb7, _⟩
  have N7 := len_app N6 (show (ByteArray.mk #[45, 45]).data.toList.length ≤ 2 from Nat.le_refl 2)
  have S7 := S6.next (by omega) h7 hb7
  have C7 := box_cells S7.2.2.1
  clear S6 C6 h7 hb7 N6
  go_wp2_with fail
  refine (ws_any _ _ _ nm w7 S7.1 (by omega)).mono ?_
  rintro e w8 ⟨rfl, h8, hb8, _⟩
  have N8 := len_app N7 (Nat.le_of_eq hnml)
  have S8 := S7.next (by omega) h8 hb8
  have C8 := box_cells S8.2.2.1
  clear S7 C7 h8 hb8 N7
  go_wp2_with fail
  refine (Tryd.Builder_String_any_k _ _ _ w8 (.inr S8.1.1) S8.1.2).mono ?_
  rintro e wz ⟨rfl, _, hbz, _⟩
  have hend : Below w.heap.size w wz := hbe.trans ((S8.2.2.2.trans hbz).mono (by omega))
  clear S8 C8 hbz hbe N8
  go_wp2
  go_ret
  refine ⟨?_, hend⟩
  simp [keyText]

/-- Key.String at every key. -/
theorem key_any (be nm : ByteArray) (a : Int) (x : Bool) (b : Int) (y : Bool) (c d : Int) (z : Bool) (w : World) (hlen : be.size + nm.size ≤ 1048576) (ha0 : -9223372036854775808 ≤ a) (ha1 : a ≤ 9223372036854775807) (hb0 : -9223372036854775808 ≤ b) (hb1 : b ≤ 9223372036854775807)
    (hc0 : -9223372036854775808 ≤ c) (hc1 : c ≤ 9223372036854775807) (hd0 : -9223372036854775808 ≤ d) (hd1 : d ≤ 9223372036854775807) (htab : TabB w.heap.size w) :
    Calls Tryd.prog 6 #[.agg #[.string be, .string nm, .int .i64 a, .bool x, .int .i64 b, .bool y, .int .i64 c, .int .i64 d, .bool z]] w fun e w' =>
      e = .returned (.string ⟨(keyText be.data.toList nm.data.toList a x b y c d z).toArray⟩) ∧ Below w.heap.size w w' := by
  cases x <;> cases y <;> cases z
  · exact key_fff be nm a b c d w hlen ha0 ha1 hb0 hb1 hc0 hc1 hd0 hd1 htab
  · exact key_fft be nm a b c d w hlen ha0 ha1 hb0 hb1 hc0 hc1 hd0 hd1 htab
  · exact key_ftf be nm a b c d w hlen ha0 ha1 hb0 hb1 hc0 hc1 hd0 hd1 htab
  · exact key_ftt be nm a b c d w hlen ha0 ha1 hb0 hb1 hc0 hc1 hd0 hd1 htab
  · exact key_tff be nm a b c d w hlen ha0 ha1 hb0 hb1 hc0 hc1 hd0 hd1 htab
  · exact key_tft be nm a b c d w hlen ha0 ha1 hb0 hb1 hc0 hc1 hd0 hd1 htab
  · exact key_ttf be nm a b c d w hlen ha0 ha1 hb0 hb1 hc0 hc1 hd0 hd1 htab
  · exact key_ttt be nm a b c d w hlen ha0 ha1 hb0 hb1 hc0 hc1 hd0 hd1 htab

end Go.Proofs.Qxb6627766aDoor
