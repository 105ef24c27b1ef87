/-
  FnStringIsCanonicalAndInjective: the walk.
-/
import Derived.Test.Qxb6627839aDoorParse
namespace Go.Proofs.Qxb6627839aDoor
open Go.RowKit
set_option linter.unusedVariables false

theorem below_draws {B : Nat} {a w : World} (h : Below B a w) (q : Nat) : Below B a (w.drewN q) := ⟨h.os, h.tape, h.output, h.size, h.block⟩

theorem text_same {S T : ByteArray} {A B : List Nat} (h : S.data.toList = vt A) (k : T.data.toList = vt B) : (S.toList == T.toList) = (A == B) := by
  by_cases e : A = B
  · subst e
    rw [same_text (h.trans k.symm)]; simp
  · have h1 : (A == B) = false := by rw [beq_eq_false_iff_ne]; exact e
    rw [h1, beq_eq_false_iff_ne]
    intro e2
    apply e
    apply vt_inj
    rw [← h, ← k]
    rw [ByteArray.toList_eq, ByteArray.toList_eq] at e2
    exact e2

set_option maxHeartbeats 4000000 in
set_option maxRecDepth 100000 in
theorem can_ss (a : Addr) (b : Addr) (na ca nb cb : Nat) (A B : List Nat) (w : World) (hA : Row w (some a) na A) (hB : Row w (some b) nb B) (hna : na ≤ 65536) (hnb : nb ≤ 65536) (htab : TabB w.heap.size w) :
    Calls Tryd.prog 4 #[.slice (some a) na ca, .slice (some b) nb cb] w fun e w' => e = .returned (.bool true) ∧ Below w.heap.size w w' := by
  have qN : ∀ (w : World) (a : Option Addr) (n c n' c' : Nat), (binOp .neq 22 (.slice a n c) (.slice none n' c')).run Tryd.prog w = .ok (.bool (!a.isNone)) w := fun w a n c n' c' => run_neq_slice_nil_any w 22 27 a n c n' c' Tryd.underlying22
  obtain ⟨i0, hi, hz0, hz1, hz2⟩ := info_parts info27
  have cB := bytes8_any (some a) (some b) na ca nb cb w (by unfold maxLen; omega) (by unfold maxLen; omega)
  have HA : Hid (Row w (some a) na A) := hA
  have HB : Hid (Row w (some b) nb B) := hB
  clear hA hB
  have hLa : (cellsOf A).length = na := by simp [cellsOf, HA.out.1]
  have h1a : ∀ u ∈ cellsOf A, u.oneCell' = true := by intro u hu; simp only [cellsOf, List.mem_map] at hu; obtain ⟨z, _, rfl⟩ := hu; rfl
  have hLb : (cellsOf B).length = nb := by simp [cellsOf, HB.out.1]
  have h1b : ∀ u ∈ cellsOf B, u.oneCell' = true := by intro u hu; simp only [cellsOf, List.mem_map] at hu; obtain ⟨z, _, rfl⟩ := hu; rfl
  go_enter Tryd.func4, Tryd.ntmps4
  go_wp2_with (first
    | (go_at_call 8; refine cB.mono ?_; rintro e wx ⟨⟨q, rfl⟩, rfl⟩)
    | (have _u := HB2; at_make; go_must (refine wpList_make_full _ rfl _ _ 22 rfl _ 27 i0 (.int .u64 0) 1 Tryd.underlying22 hi hz0 hz1 _ _ _ _ nb rfl rfl rfl rfl (by rw [hz2]; omega) (by unfold maxLen; omega) (Nat.le_refl _) ?_); intro w3 hown hgrow; obtain ⟨HG3, hb3, HSR3⟩ := clone_facts HB2 hown hgrow; clear hown hgrow)
    | (at_make; go_must (refine wpList_make_full _ rfl _ _ 22 rfl _ 27 i0 (.int .u64 0) 1 Tryd.underlying22 hi hz0 hz1 _ _ _ _ na rfl rfl rfl rfl (by rw [hz2]; omega) (by unfold maxLen; omega) (Nat.le_refl _) ?_); intro w1 hown hgrow; obtain ⟨HG1, hb1, HSR1⟩ := clone_facts HA.out hown hgrow; clear hown hgrow)
    | (have _t1 := HG1; refine wpList_copy_splice rfl (.tmp 28) (.tmp 29) 22 22 rfl 27 Tryd.underlying22 size27 _ _ _ _ _ _ rfl rfl _ 0 (List.replicate na (Value.int .u64 0)) 27 HG1.out (cellsOf A) (by rw [hLa]; exact (Nat.min_self na).symm) (fun _ => ⟨rfl, a, rfl, HSR1.out⟩) (by rw [hLa, List.length_replicate]; omega) h1a _ _ hb1 (Nat.le_refl _) ?_; intro w2 HG2 hb2; clear HG1 HSR1 hb1 _t1; have HB2 := HB.out.below hb2)
    | (have _t3 := HG3; refine wpList_copy_splice rfl (.tmp 37) (.tmp 38) 22 22 rfl 27 Tryd.underlying22 size27 _ _ _ _ _ _ rfl rfl _ 0 (List.replicate nb (Value.int .u64 0)) 27 HG3.out (cellsOf B) (by rw [hLb]; exact (Nat.min_self nb).symm) (fun _ => ⟨rfl, b, rfl, HSR3.out⟩) (by rw [hLb, List.length_replicate]; omega) h1b _ _ hb3 (Nat.le_refl _) ?_; intro w4 HG4 hb4; clear HG3 HSR3 hb3 _t3))
  · go_ret
    exact ⟨rfl, Below.refl _ _⟩
  clear cB qN hi hz0 hz1 hz2
  have hrA2 : Row w2 (some ⟨wx.heap.size, 0, none⟩) na A := cloned_row HG2 HA.out.1 HA.out.2.1
  have hrA := hrA2.below hb4
  have hrB : Row w4 (some ⟨w2.heap.size, 0, none⟩) nb B := cloned_row HG4 HB.out.1 HB.out.2.1
  have HBB : Below wx.heap.size wx w4 := hb2.trans (hb4.mono hb2.size)
  have ht : TabB w4.heap.size w4 := fun w' h => htab w' (HBB.trans (h.mono HBB.size))
  clear HG2 HG4 hb2 hb4 hrA2 HB2 _u
  clear htab HA HB
  refine (vec_any (some ⟨wx.heap.size, 0, none⟩) na na A w4 hna hrA ht).mono ?_
  rintro e w5 ⟨S1, rfl, HS1, hs1, hb5⟩
  have hrA5 := hrA.below hb5
  have hrB5 := hrB.below hb5
  have ht5 : TabB w5.heap.size w5 := fun w' h => ht w' (hb5.trans (h.mono hb5.size))
  clear hrA hrB ht
  go_wp2_with fail
  refine (vec_any (some ⟨w2.heap.size, 0, none⟩) nb nb B w5 hnb hrB5 ht5).mono ?_
  rintro e w6 ⟨S2, rfl, HS2, hs2, hb6⟩
  have hrA6 := hrA5.below hb6
  have hrB6 := hrB5.below hb6
  clear hrA5 hrB5 ht5
  go_wp2_with fail
  refine (parse_any S1 A w6 hrA6.2.1 (by rw [hrA6.1]; exact hna) HS1).mono ?_
  rintro e w7 ⟨po, pc, rfl, hrP, hb7⟩
  have hrA7 := hrA6.below hb7
  have hrB7 := hrB6.below hb7
  clear hrA6 hrB6
  have g5 := HBB.trans (hb5.mono HBB.size)
  have g6 := g5.trans (hb6.mono g5.size)
  have HB7 : Hid (Below wx.heap.size wx w7) := g6.trans (hb7.mono g6.size)
  have hAl : A.length = na := hrA7.1
  rw [hAl] at hrP ⊢
  have hE : (S1.toList == S2.toList) = (A == B) := text_same HS1.out HS2.out
  clear g5 g6 HBB hb5 hb6 hb7 HS1 HS2 hs1 hs2 hAl
  go_wp2_with fail
  refine (same_any po (some ⟨wx.heap.size, 0, none⟩) na na pc na A A w7 (by omega) (by omega) hrP hrA7).mono ?_
  rintro e w8 ⟨rfl, q8, rfl⟩
  rw [beq_self_eq_true]
  clear hrP
  go_wp2_with fail
  refine (same_any (some ⟨wx.heap.size, 0, none⟩) (some ⟨w2.heap.size, 0, none⟩) na nb na nb A B (w7.drewN q8) (by omega) (by omega) hrA7 hrB7).mono ?_
  rintro e w9 ⟨rfl, q9, rfl⟩
  clear hrA7 hrB7
  go_wp2
  go_ret
  exact ⟨rfl, below_draws HB7.out _⟩

set_option maxHeartbeats 4000000 in
set_option maxRecDepth 100000 in
theorem can_sn (a : Addr) (na ca nb cb : Nat) (A B : List Nat) (w : World) (hA : Row w (some a) na A) (hB : Row w (none) 0 B) (hna : na ≤ 65536) (hnb : 0 ≤ 65536) (htab : TabB w.heap.size w) :
    Calls Tryd.prog 4 #[.slice (some a) na ca, .slice none 0 0] w fun e w' => e = .returned (.bool true) ∧ Below w.heap.size w w' := by
  have qN : ∀ (w : World) (a : Option Addr) (n c n' c' : Nat), (binOp .neq 22 (.slice a n c) (.slice none n' c')).run Tryd.prog w = .ok (.bool (!a.isNone)) w := fun w a n c n' c' => run_neq_slice_nil_any w 22 27 a n c n' c' Tryd.underlying22
  obtain ⟨i0, hi, hz0, hz1, hz2⟩ := info_parts info27
  have cB := bytes8_any (some a) (none) na ca 0 0 w (by unfold maxLen; omega) (by unfold maxLen; omega)
  have HA : Hid (Row w (some a) na A) := hA
  have HB : Hid (Row w (none) 0 B) := hB
  clear hA hB
  have hLa : (cellsOf A).length = na := by simp [cellsOf, HA.out.1]
  have h1a : ∀ u ∈ cellsOf A, u.oneCell' = true := by intro u hu; simp only [cellsOf, List.mem_map] at hu; obtain ⟨z, _, rfl⟩ := hu; rfl
  go_enter Tryd.func4, Tryd.ntmps4
  go_wp2_with (first
    | (go_at_call 8; refine cB.mono ?_; rintro e wx ⟨⟨q, rfl⟩, rfl⟩)
    | (at_make; go_must (refine wpList_make_full _ rfl _ _ 22 rfl _ 27 i0 (.int .u64 0) 1 Tryd.underlying22 hi hz0 hz1 _ _ _ _ na rfl rfl rfl rfl (by rw [hz2]; omega) (by unfold maxLen; omega) (Nat.le_refl _) ?_); intro w1 hown hgrow; obtain ⟨HG1, hb1, HSR1⟩ := clone_facts HA.out hown hgrow; clear hown hgrow)
    | (have _t1 := HG1; refine wpList_copy_splice rfl (.tmp 28) (.tmp 29) 22 22 rfl 27 Tryd.underlying22 size27 _ _ _ _ _ _ rfl rfl _ 0 (List.replicate na (Value.int .u64 0)) 27 HG1.out (cellsOf A) (by rw [hLa]; exact (Nat.min_self na).symm) (fun _ => ⟨rfl, a, rfl, HSR1.out⟩) (by rw [hLa, List.length_replicate]; omega) h1a _ _ hb1 (Nat.le_refl _) ?_; intro w2 HG2 hb2; clear HG1 HSR1 hb1 _t1; have HB2 := HB.out.below hb2))
  · go_ret
    exact ⟨rfl, Below.refl _ _⟩
  clear cB qN hi hz0 hz1 hz2
  have hrA2 : Row w2 (some ⟨wx.heap.size, 0, none⟩) na A := cloned_row HG2 HA.out.1 HA.out.2.1
  have hrA := hrA2
  have hrB := HB.out.below hb2
  have HBB : Below wx.heap.size wx w2 := hb2
  have ht : TabB w2.heap.size w2 := fun w' h => htab w' (HBB.trans (h.mono HBB.size))
  clear HG2 hb2 hrA2 HB2
  clear htab HA HB
  refine (vec_any (some ⟨wx.heap.size, 0, none⟩) na na A w2 hna hrA ht).mono ?_
  rintro e w5 ⟨S1, rfl, HS1, hs1, hb5⟩
  have hrA5 := hrA.below hb5
  have hrB5 := hrB.below hb5
  have ht5 : TabB w5.heap.size w5 := fun w' h => ht w' (hb5.trans (h.mono hb5.size))
  clear hrA hrB ht
  go_wp2_with fail
  refine (vec_any none 0 0 B w5 hnb hrB5 ht5).mono ?_
  rintro e w6 ⟨S2, rfl, HS2, hs2, hb6⟩
  have hrA6 := hrA5.below hb6
  have hrB6 := hrB5.below hb6
  clear hrA5 hrB5 ht5
  go_wp2_with fail
  refine (parse_any S1 A w6 hrA6.2.1 (by rw [hrA6.1]; exact hna) HS1).mono ?_
  rintro e w7 ⟨po, pc, rfl, hrP, hb7⟩
  have hrA7 := hrA6.below hb7
  have hrB7 := hrB6.below hb7
  clear hrA6 hrB6
  have g5 := HBB.trans (hb5.mono HBB.size)
  have g6 := g5.trans (hb6.mono g5.size)
  have HB7 : Hid (Below wx.heap.size wx w7) := g6.trans (hb7.mono g6.size)
  have hAl : A.length = na := hrA7.1
  rw [hAl] at hrP ⊢
  have hE : (S1.toList == S2.toList) = (A == B) := text_same HS1.out HS2.out
  clear g5 g6 HBB hb5 hb6 hb7 HS1 HS2 hs1 hs2 hAl
  go_wp2_with fail
  refine (same_any po (some ⟨wx.heap.size, 0, none⟩) na na pc na A A w7 (by omega) (by omega) hrP hrA7).mono ?_
  rintro e w8 ⟨rfl, q8, rfl⟩
  rw [beq_self_eq_true]
  clear hrP
  go_wp2_with fail
  refine (same_any (some ⟨wx.heap.size, 0, none⟩) none na 0 na 0 A B (w7.drewN q8) (by omega) (by omega) hrA7 hrB7).mono ?_
  rintro e w9 ⟨rfl, q9, rfl⟩
  clear hrA7 hrB7
  go_wp2
  go_ret
  exact ⟨rfl, below_draws HB7.out _⟩

set_option maxHeartbeats 4000000 in
set_option maxRecDepth 100000 in
theorem can_ns (b : Addr) (na ca nb cb : Nat) (A B : List Nat) (w : World) (hA : Row w (none) 0 A) (hB : Row w (some b) nb B) (hna : 0 ≤ 65536) (hnb : nb ≤ 65536) (htab : TabB w.heap.size w) :
    Calls Tryd.prog 4 #[.slice none 0 0, .slice (some b) nb cb] w fun e w' => e = .returned (.bool true) ∧ Below w.heap.size w w' := by
  have qN : ∀ (w : World) (a : Option Addr) (n c n' c' : Nat), (binOp .neq 22 (.slice a n c) (.slice none n' c')).run Tryd.prog w = .ok (.bool (!a.isNone)) w := fun w a n c n' c' => run_neq_slice_nil_any w 22 27 a n c n' c' Tryd.underlying22
  obtain ⟨i0, hi, hz0, hz1, hz2⟩ := info_parts info27
  have cB := bytes8_any (none) (some b) 0 0 nb cb w (by unfold maxLen; omega) (by unfold maxLen; omega)
  have HA : Hid (Row w (none) 0 A) := hA
  have HB : Hid (Row w (some b) nb B) := hB
  clear hA hB
  have hLb : (cellsOf B).length = nb := by simp [cellsOf, HB.out.1]
  have h1b : ∀ u ∈ cellsOf B, u.oneCell' = true := by intro u hu; simp only [cellsOf, List.mem_map] at hu; obtain ⟨z, _, rfl⟩ := hu; rfl
  go_enter Tryd.func4, Tryd.ntmps4
  go_wp2_with (first
    | (go_at_call 8; refine cB.mono ?_; rintro e wx ⟨⟨q, rfl⟩, rfl⟩)
    | (at_make; go_must (refine wpList_make_full _ rfl _ _ 22 rfl _ 27 i0 (.int .u64 0) 1 Tryd.underlying22 hi hz0 hz1 _ _ _ _ nb rfl rfl rfl rfl (by rw [hz2]; omega) (by unfold maxLen; omega) (Nat.le_refl _) ?_); intro w3 hown hgrow; obtain ⟨HG3, hb3, HSR3⟩ := clone_facts HB.out hown hgrow; clear hown hgrow)
    | (have _t3 := HG3; refine wpList_copy_splice rfl (.tmp 37) (.tmp 38) 22 22 rfl 27 Tryd.underlying22 size27 _ _ _ _ _ _ rfl rfl _ 0 (List.replicate nb (Value.int .u64 0)) 27 HG3.out (cellsOf B) (by rw [hLb]; exact (Nat.min_self nb).symm) (fun _ => ⟨rfl, b, rfl, HSR3.out⟩) (by rw [hLb, List.length_replicate]; omega) h1b _ _ hb3 (Nat.le_refl _) ?_; intro w4 HG4 hb4; clear HG3 HSR3 hb3 _t3))
  · go_ret
    exact ⟨rfl, Below.refl _ _⟩
  clear cB qN hi hz0 hz1 hz2
  have hrA := HA.out.below hb4
  have hrB : Row w4 (some ⟨wx.heap.size, 0, none⟩) nb B := cloned_row HG4 HB.out.1 HB.out.2.1
  have HBB : Below wx.heap.size wx w4 := hb4
  have ht : TabB w4.heap.size w4 := fun w' h => htab w' (HBB.trans (h.mono HBB.size))
  clear HG4 hb4
  clear htab HA HB
  refine (vec_any none 0 0 A w4 hna hrA ht).mono ?_
  rintro e w5 ⟨S1, rfl, HS1, hs1, hb5⟩
  have hrA5 := hrA.below hb5
  have hrB5 := hrB.below hb5
  have ht5 : TabB w5.heap.size w5 := fun w' h => ht w' (hb5.trans (h.mono hb5.size))
  clear hrA hrB ht
  go_wp2_with fail
  refine (vec_any (some ⟨wx.heap.size, 0, none⟩) nb nb B w5 hnb hrB5 ht5).mono ?_
  rintro e w6 ⟨S2, rfl, HS2, hs2, hb6⟩
  have hrA6 := hrA5.below hb6
  have hrB6 := hrB5.below hb6
  clear hrA5 hrB5 ht5
  go_wp2_with fail
  refine (parse_any S1 A w6 hrA6.2.1 (by rw [hrA6.1]; exact hna) HS1).mono ?_
  rintro e w7 ⟨po, pc, rfl, hrP, hb7⟩
  have hrA7 := hrA6.below hb7
  have hrB7 := hrB6.below hb7
  clear hrA6 hrB6
  have g5 := HBB.trans (hb5.mono HBB.size)
  have g6 := g5.trans (hb6.mono g5.size)
  have HB7 : Hid (Below wx.heap.size wx w7) := g6.trans (hb7.mono g6.size)
  have hAl : A.length = 0 := hrA7.1
  rw [hAl] at hrP ⊢
  have hE : (S1.toList == S2.toList) = (A == B) := text_same HS1.out HS2.out
  clear g5 g6 HBB hb5 hb6 hb7 HS1 HS2 hs1 hs2 hAl
  go_wp2_with fail
  refine (same_any po none 0 0 pc 0 A A w7 (by omega) (by omega) hrP hrA7).mono ?_
  rintro e w8 ⟨rfl, q8, rfl⟩
  rw [beq_self_eq_true]
  clear hrP
  go_wp2_with fail
  refine (same_any none (some ⟨wx.heap.size, 0, none⟩) 0 nb 0 nb A B (w7.drewN q8) (by omega) (by omega) hrA7 hrB7).mono ?_
  rintro e w9 ⟨rfl, q9, rfl⟩
  clear hrA7 hrB7
  go_wp2
  go_ret
  exact ⟨rfl, below_draws HB7.out _⟩

set_option maxHeartbeats 4000000 in
set_option maxRecDepth 100000 in
theorem can_nn (na ca nb cb : Nat) (A B : List Nat) (w : World) (hA : Row w (none) 0 A) (hB : Row w (none) 0 B) (hna : 0 ≤ 65536) (hnb : 0 ≤ 65536) (htab : TabB w.heap.size w) :
    Calls Tryd.prog 4 #[.slice none 0 0, .slice none 0 0] w fun e w' => e = .returned (.bool true) ∧ Below w.heap.size w w' := by
  have qN : ∀ (w : World) (a : Option Addr) (n c n' c' : Nat), (binOp .neq 22 (.slice a n c) (.slice none n' c')).run Tryd.prog w = .ok (.bool (!a.isNone)) w := fun w a n c n' c' => run_neq_slice_nil_any w 22 27 a n c n' c' Tryd.underlying22
  obtain ⟨i0, hi, hz0, hz1, hz2⟩ := info_parts info27
  have cB := bytes8_any (none) (none) 0 0 0 0 w (by unfold maxLen; omega) (by unfold maxLen; omega)
  have HA : Hid (Row w (none) 0 A) := hA
  have HB : Hid (Row w (none) 0 B) := hB
  clear hA hB
  go_enter Tryd.func4, Tryd.ntmps4
  go_wp2_with (go_at_call 8; refine cB.mono ?_; rintro e wx ⟨⟨q, rfl⟩, rfl⟩)
  · go_ret
    exact ⟨rfl, Below.refl _ _⟩
  clear cB qN hi hz0 hz1 hz2
  have hrA := HA.out
  have hrB := HB.out
  have HBB : Below wx.heap.size wx wx := Below.refl _ _
  have ht := htab
  clear htab HA HB
  refine (vec_any none 0 0 A wx hna hrA ht).mono ?_
  rintro e w5 ⟨S1, rfl, HS1, hs1, hb5⟩
  have hrA5 := hrA.below hb5
  have hrB5 := hrB.below hb5
  have ht5 : TabB w5.heap.size w5 := fun w' h => ht w' (hb5.trans (h.mono hb5.size))
  clear hrA hrB ht
  go_wp2_with fail
  refine (vec_any none 0 0 B w5 hnb hrB5 ht5).mono ?_
  rintro e w6 ⟨S2, rfl, HS2, hs2, hb6⟩
  have hrA6 := hrA5.below hb6
  have hrB6 := hrB5.below hb6
  clear hrA5 hrB5 ht5
  go_wp2_with fail
  refine (parse_any S1 A w6 hrA6.2.1 (by rw [hrA6.1]; exact hna) HS1).mono ?_
  rintro e w7 ⟨po, pc, rfl, hrP, hb7⟩
  have hrA7 := hrA6.below hb7
  have hrB7 := hrB6.below hb7
  clear hrA6 hrB6
  have g5 := HBB.trans (hb5.mono HBB.size)
  have g6 := g5.trans (hb6.mono g5.size)
  have HB7 : Hid (Below wx.heap.size wx w7) := g6.trans (hb7.mono g6.size)
  have hAl : A.length = 0 := hrA7.1
  rw [hAl] at hrP ⊢
  have hE : (S1.toList == S2.toList) = (A == B) := text_same HS1.out HS2.out
  clear g5 g6 HBB hb5 hb6 hb7 HS1 HS2 hs1 hs2 hAl
  go_wp2_with fail
  refine (same_any po none 0 0 pc 0 A A w7 (by omega) (by omega) hrP hrA7).mono ?_
  rintro e w8 ⟨rfl, q8, rfl⟩
  rw [beq_self_eq_true]
  clear hrP
  go_wp2_with fail
  refine (same_any none none 0 0 0 0 A B (w7.drewN q8) (by omega) (by omega) hrA7 hrB7).mono ?_
  rintro e w9 ⟨rfl, q9, rfl⟩
  clear hrA7 hrB7
  go_wp2
  go_ret
  exact ⟨rfl, below_draws HB7.out _⟩

set_option maxHeartbeats 2000000 in
theorem canon_walk (a0 b0 : Option Addr) (na ca nb cb : Nat) (A B : List Nat) (w : World) (hca : a0 = none → na = 0 ∧ ca = 0) (hcb : b0 = none → nb = 0 ∧ cb = 0) (hA : Row w a0 na A) (hB : Row w b0 nb B) (hna : na ≤ maxLen) (hnb : nb ≤ maxLen) (htab : TabB w.heap.size w) :
    Calls Tryd.prog 4 #[.slice a0 na ca, .slice b0 nb cb] w fun e w' => e = .returned (.bool true) ∧ Below w.heap.size w w' := by
  have cB := bytes8_any a0 b0 na ca nb cb w hna hnb
  unfold maxLen at hna hnb
  by_cases h1 : 65536 < na
  · go_enter Tryd.func4, Tryd.ntmps4
    go_wp2_with (go_at_call 8; refine cB.mono ?_; rintro e wx ⟨⟨q, rfl⟩, rfl⟩)
    all_goals
      go_ret
      exact ⟨rfl, Below.refl _ _⟩
  by_cases h2 : 65536 < nb
  · go_enter Tryd.func4, Tryd.ntmps4
    go_wp2_with (go_at_call 8; refine cB.mono ?_; rintro e wx ⟨⟨q, rfl⟩, rfl⟩)
    all_goals
      go_ret
      exact ⟨rfl, Below.refl _ _⟩
  cases a0 with
  | none =>
    obtain ⟨rfl, rfl⟩ := hca rfl
    cases b0 with
    | none =>
      obtain ⟨rfl, rfl⟩ := hcb rfl
      exact can_nn 0 0 0 0 A B w hA hB (by omega) (by omega) htab
    | some b => exact can_ns b 0 0 nb cb A B w hA hB (by omega) (by omega) htab
  | some a =>
    cases b0 with
    | none =>
      obtain ⟨rfl, rfl⟩ := hcb rfl
      exact can_sn a na ca 0 0 A B w hA hB (by omega) (by omega) htab
    | some b => exact can_ss a b na ca nb cb A B w hA hB (by omega) (by omega) htab

end Go.Proofs.Qxb6627839aDoor
