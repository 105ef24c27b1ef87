/-
  strings.Builder Write; the closure field of Key.String.
-/
import Derived.Test.Qxb6627766aDoorAppi
namespace Go.Proofs.Qxb6627766aDoor
open Go.RowKit
set_option linter.unusedVariables false

/-- A builder is kept where a block that is neither its own nor a byte row is written. -/
theorem builder_kept {B b D : Nat} {p : Value} {bs : List Value} {w w' : World} (h : Lib.BuilderAtF 32 5 B b p bs w) (g : w.grownBy w' (some D)) (hD : b ≠ D) (hk : ∀ c fz, w.heap[D]? ≠ some (.cells c 5 fz)) : Lib.BuilderAtF 32 5 B b p bs w' := by
  have hlt := h.lt
  obtain ⟨hB, v, hb, hown, hne⟩ := h
  refine ⟨hB, v, (g.block b hlt (fun e => hD (Option.some.inj e))).trans hb, hown.kept g ?_, hne⟩
  cases hv : v.ownBlock with
  | none => exact .inl rfl
  | some r =>
    right
    intro e
    obtain ⟨c, fz, hc⟩ := Lib.ownsRowF_kind hown r hv
    rw [Option.some.inj e] at hc
    exact hk c fz hc

theorem held_noRow {D n : Nat} {xs : List Value} {w : World} (h : Held D n xs w) : ∀ c fz, w.heap[D]? ≠ some (.cells c 5 fz) := by
  obtain ⟨cur, hA, _⟩ := h
  intro c fz e
  rw [hA.1] at e
  simp at e

theorem held_others {D n b : Nat} {xs : List Value} {w w' : World} (h : Held D n xs w) (hb : D ≠ b) (k : Lib.OthersKept 5 (some b) w w') : Held D n xs w' := by
  obtain ⟨cur, hA, r⟩ := h
  have := k D _ hA.1 (fun e => hb (Option.some.inj e)) (fun c fz e => by simp at e)
  exact ⟨cur, ⟨this, hA.2⟩, r⟩

set_option maxHeartbeats 1000000 in
set_option maxRecDepth 100000 in
/-- (*strings.Builder).Write of the array's first n bytes. -/
theorem write_any (B b D n : Nat) (bs news : List Value) (w : World) (h : Lib.IsBuilderF 32 5 B b bs w) (hh : Held D n news w) (hDb : D ≠ b) (h1c : ∀ u ∈ news, u.oneCell' = true) (hlen : bs.length + n ≤ 140737488355328) (hBw : B ≤ w.heap.size) :
    Calls Tryd.prog 12 #[.pointer (some ⟨b, 0, none⟩), .slice (some ⟨D, 0, none⟩) n 20] w fun e w' => e = .returned (.tuple #[.int .i64 n, .nilIface]) ∧ (Lib.BuilderAtF 32 5 B b (.pointer (some ⟨b, 0, none⟩)) (bs ++ news) w' ∧ Below B w w') := by
  obtain ⟨i0, hi, hz0, hz1, hz2⟩ := info_parts info5
  have hnl : news.length = n := by obtain ⟨_, _, _, hl⟩ := hh; exact hl
  go_enter Tryd.func12, Tryd.ntmps12
  go_wp2_with (go_at_call 15; refine (Tryd.Builder_copyCheck_k B b bs _ h).mono ?_)
  rintro e w1 ⟨rfl, h1, hb1, hk1⟩
  have hh1 := held_others hh hDb hk1
  have hcells := hh1.cells
  obtain ⟨hB, v, hbk, hown, hne⟩ := h1
  have c0 : w1.cell? ⟨b, 0, none⟩ = some (.pointer (some ⟨b, 0, none⟩)) := by rw [Lib.cell_of_heap hbk]; rfl
  have c1 : w1.cell? ⟨b, 1, none⟩ = some v := by rw [Lib.cell_of_heap hbk]; rfl
  clear h hh hk1
  go_wp2_with (at_builtin; go_must (refine wpList_append_ownF _ rfl _ _ 30 rfl B 5 i0 (.int .u8 0) 1 1 Tryd.underlying30 hi hz0 hz1 hz2 rfl (by decide) _ _ _ rfl hown ⟨D, 0, none⟩ n 20 news rfl ?c0 hcells h1c ?c3 ?c4 ?c5 ?_))
  case c0 => omega
  case c3 => unfold maxLen; omega
  case c4 => omega
  case c5 => have := hb1.size; omega
  intro v' w2 hown' hgrow _
  have hlt : b < w1.heap.size := by
    rcases Nat.lt_or_ge b w1.heap.size with h' | h'
    · exact h'
    · simp [Array.getElem?_eq_none h'] at hbk
  have hb2 : w2.heap[b]? = some (.cells #[.pointer (some ⟨b, 0, none⟩), v] 32 (0, 0)) := by
    rw [hgrow.block b hlt (fun e => hne e.symm)]
    exact hbk
  have d0 : w2.cell? ⟨b, 0, none⟩ = some (.pointer (some ⟨b, 0, none⟩)) := by rw [Lib.cell_of_heap hb2]; rfl
  have d1 : w2.cell? ⟨b, 1, none⟩ = some v := by rw [Lib.cell_of_heap hb2]; rfl
  have f1 : w2.frozen? ⟨b, 1, none⟩ = false := Lib.frozen_of_heap hb2 1
  obtain ⟨ao, n', cap, rfl⟩ : ∃ ao n' cap, v' = .slice ao n' cap := by
    rcases hown'.2 with ⟨hv, _⟩ | ⟨g, cap, cur, fz, hv, _⟩
    · exact ⟨_, _, _, hv⟩
    · exact ⟨_, _, _, hv⟩
  clear hcells
  go_wp2
  go_ret2
  refine ⟨rfl, ?_, ?_⟩
  · exact Lib.BuilderAtF.put (T := 32) (e := 5) hB hb2 (bs' := bs ++ news) (by rw [List.length_append, hnl]; exact hown') (by decide)
  · exact (hb1.grown hgrow (by have := hb1.size; omega) (fun k hk => (hown.lt k hk).1)).setCell (p := ⟨b, 1, none⟩) hB _

/-- The table reads as it should in every world that is, below B, as w was. -/
def TabB (B : Nat) (w : World) : Prop := ∀ w', Below B w w' → Lib.TabIs Tryd.prog w' tabN .u64 Lib.pow10Tab
theorem TabB.next {B : Nat} {w w' : World} (h : TabB B w) (hb : Below B w w') : TabB B w' := fun w'' h2 => h w'' (hb.trans h2)

theorem byteCells_str (l : List UInt8) (s : ByteArray) : Lib.byteCells l ++ Lib.strCells s = Lib.byteCells (l ++ s.data.toList) := by
  rw [Lib.byteCells_append]; rfl
theorem byteCells_one (l : List UInt8) : ∀ u ∈ Lib.byteCells l, u.oneCell' = true := by
  intro u' hu'; simp only [Lib.byteCells, List.mem_map] at hu'; obtain ⟨b, _, rfl⟩ := hu'; rfl
theorem itoa_len (n : Int) (h0 : -9223372036854775808 ≤ n) (h1 : n ≤ 9223372036854775807) : (Lib.itoa n).length ≤ 20 := by
  by_cases h : n < 0
  · rw [itoa_of_neg h rfl, List.length_cons]; have := nd19 n.natAbs (by omega); omega
  · rw [itoa_of_nonneg h rfl]; have := nd19 n.natAbs (by omega); omega

/-- The builder's state, its bytes as a list. -/
def Bld (B b : Nat) (l : List UInt8) (w : World) : Prop := Lib.BuilderAtF 32 5 B b (.pointer (some ⟨b, 0, none⟩)) (Lib.byteCells l) w ∧ B ≤ w.heap.size

theorem ws_any (B b : Nat) (l : List UInt8) (s : ByteArray) (w : World) (h : Bld B b l w) (hlen : l.length + s.size ≤ 140737488355328) :
    Calls Tryd.prog 10 #[.pointer (some ⟨b, 0, none⟩), .string s] w fun e w' => e = .returned (.tuple #[.int .i64 s.size, .nilIface]) ∧ Bld B b (l ++ s.data.toList) w' ∧ Below B w w' ∧ Lib.OthersKept 5 (some b) w w' := by
  refine (Tryd.Builder_WriteString_k B b _ s w (.inr h.1) (by rw [Lib.byteCells_length]; exact hlen) h.2).mono fun e w' ⟨he, h1, h2, h3⟩ => ⟨he, ⟨?_, Nat.le_trans h.2 h2.size⟩, h2, h3⟩
  rw [byteCells_str] at h1; exact h1

theorem arr0 (w : World) : Held w.heap.size 0 [] (w.alloc (.cells #[.int .u8 0, .int .u8 0, .int .u8 0, .int .u8 0, .int .u8 0, .int .u8 0, .int .u8 0, .int .u8 0, .int .u8 0, .int .u8 0, .int .u8 0, .int .u8 0, .int .u8 0, .int .u8 0, .int .u8 0, .int .u8 0, .int .u8 0, .int .u8 0, .int .u8 0, .int .u8 0] 38)) :=
  ⟨_, ⟨heap_alloc_new w _, rfl⟩, rfl, rfl⟩

set_option maxHeartbeats 1000000 in
set_option maxRecDepth 100000 in
/-- The closure 'field'. -/
theorem field_any (B b : Nat) (l : List UInt8) (s : ByteArray) (n : Int) (w : World) (h : Bld B b l w) (htab : TabB B w) (h0 : -9223372036854775808 ≤ n) (h1 : n ≤ 9223372036854775807) (hlen : l.length + s.size + 20 ≤ 140737488355328) :
    Calls Tryd.prog 11 #[.string s, .int .i64 n, .pointer (some ⟨b, 0, none⟩)] w fun e w' => e = .returned (.tuple #[]) ∧ Bld B b (l ++ s.data.toList ++ Lib.itoa n) w' ∧ Below B w w' := by
  have hil := itoa_len n h0 h1
  have hbl : b < w.heap.size := h.1.lt
  have hA := arr0 w
  have hb1 : Bld B b l (w.alloc (.cells #[.int .u8 0, .int .u8 0, .int .u8 0, .int .u8 0, .int .u8 0, .int .u8 0, .int .u8 0, .int .u8 0, .int .u8 0, .int .u8 0, .int .u8 0, .int .u8 0, .int .u8 0, .int .u8 0, .int .u8 0, .int .u8 0, .int .u8 0, .int .u8 0, .int .u8 0, .int .u8 0] 38)) :=
    ⟨h.1.alloc _, Nat.le_trans h.2 ((Below.refl 0 w).alloc (Nat.zero_le _) _).size⟩
  have hbe := (Below.refl B w).alloc h.2 (.cells #[.int .u8 0, .int .u8 0, .int .u8 0, .int .u8 0, .int .u8 0, .int .u8 0, .int .u8 0, .int .u8 0, .int .u8 0, .int .u8 0, .int .u8 0, .int .u8 0, .int .u8 0, .int .u8 0, .int .u8 0, .int .u8 0, .int .u8 0, .int .u8 0, .int .u8 0, .int .u8 0] 38)
  go_enter Tryd.func11, Tryd.ntmps11
  go_wp2_with fail
  refine (ws_any B b l s _ hb1 (by omega)).mono ?_
  rintro e w2 ⟨rfl, h2, hbel2, hk2⟩
  have hA2 : Held w.heap.size 0 [] w2 := held_others hA (by omega) hk2
  have hbel := hbe.trans hbel2
  have ht2 : TabFar w.heap.size w2 := fun w' g => htab w' (hbel.grown g h2.2 (fun k hk => by cases hk; exact h.2))
  clear hA hb1 hbe hbel2 hk2
  go_wp2_with fail
  refine (appi_any w.heap.size n h0 h1 w2 hA2 ht2).mono ?_
  rintro e w3 ⟨rfl, h3, g3⟩
  have hB3 : Lib.BuilderAtF 32 5 B b (.pointer (some ⟨b, 0, none⟩)) (Lib.byteCells (l ++ s.data.toList)) w3 := builder_kept h2.1 g3 (by omega) (held_noRow hA2)
  have hbel3 := hbel.grown g3 h2.2 (fun k hk => by cases hk; exact h.2)
  have hls : (l ++ s.data.toList).length = l.length + s.size := by rw [List.length_append, Array.length_toList]; rfl
  clear hA2 ht2 h2 hbel htab
  go_wp2_with fail
  refine (write_any B b w.heap.size _ _ _ w3 (.inr hB3) h3 (by omega) (byteCells_one _) (by rw [Lib.byteCells_length]; omega) (Nat.le_trans h.2 hbel3.size)).mono ?_
  rintro e w4 ⟨rfl, h4, hb4⟩
  have hbel4 := hbel3.trans hb4
  rw [← Lib.byteCells_append] at h4
  clear hB3 h3
  go_wp2
  go_end0
  exact ⟨rfl, ⟨h4, Nat.le_trans h.2 hbel4.size⟩, hbel4⟩

end Go.Proofs.Qxb6627766aDoor
