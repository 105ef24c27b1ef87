/-
  Vector.String: the counts in decimal, a dot between two.
-/
import Derived.Test.Qxb6627839aDoorFmt
namespace Go.Proofs.Qxb6627839aDoor
open Go.RowKit
set_option linter.unusedVariables false

/-- The text of a vector. -/
def vt : List Nat → List UInt8
  | [] => []
  | x :: r => match r with
    | [] => Lib.decDigits x
    | _ :: _ => Lib.decDigits x ++ 46 :: vt r

theorem vt_nil : vt [] = [] := rfl
theorem vt_one (x : Nat) : vt [x] = Lib.decDigits x := rfl
theorem vt_cons (x y : Nat) (r : List Nat) : vt (x :: y :: r) = Lib.decDigits x ++ 46 :: vt (y :: r) := rfl
theorem vt_append (l r : List Nat) (hl : l ≠ []) (hr : r ≠ []) : vt (l ++ r) = vt l ++ 46 :: vt r := by
  induction l with
  | nil => exact absurd rfl hl
  | cons x l ih =>
    cases l with
    | nil =>
      cases r with
      | nil => exact absurd rfl hr
      | cons y r => rfl
    | cons z l =>
      have := ih (by simp)
      rw [List.cons_append, List.cons_append, vt_cons, ← List.cons_append, this, vt_cons, List.append_assoc]; rfl

theorem nd20 (u : Nat) (h : u < 18446744073709551616) : (Lib.decDigits u).length ≤ 20 := by
  rw [Lib.decDigits_length]
  by_cases h1 : 1 ≤ u
  · have := Lib.numDigits_eq u h1 h; split at this <;> omega
  · rw [Lib.nDigits_small (by omega)]; omega

theorem vt_len (l : List Nat) (h : ∀ x ∈ l, x < 18446744073709551616) : (vt l).length ≤ 21 * l.length := by
  induction l with
  | nil => simp [vt]
  | cons x l ih =>
    have hx := nd20 x (h x (by simp))
    have := ih (fun y hy => h y (by simp [hy]))
    cases l with
    | nil => rw [vt_one]; simp; omega
    | cons y r => rw [vt_cons]; simp at this ⊢; omega

/-- The slice of n counts at ao reads as L in w. -/
def Row (w : World) (ao : Option Addr) (n : Nat) (L : List Nat) : Prop :=
  L.length = n ∧ (∀ x ∈ L, x < 18446744073709551616) ∧ (0 < n → ∃ b off, ao = some ⟨b, off, none⟩ ∧ ∀ j, j < n → w.cell? ⟨b, off + j, none⟩ = some (.int .u64 ((L.getD j 0 : Nat) : Int)))

theorem Row.below {w w' : World} {ao : Option Addr} {n : Nat} {L : List Nat} (h : Row w ao n L) (hb : Below w.heap.size w w') : Row w' ao n L := by
  refine ⟨h.1, h.2.1, fun hn => ?_⟩
  obtain ⟨b, off, e, hc⟩ := h.2.2 hn
  refine ⟨b, off, e, fun j hj => ?_⟩
  rw [hb.cell (World.block_lt_of_cell? w _ (hc j hj))]
  exact hc j hj

theorem byteCells_str (l : List UInt8) (s : ByteArray) : Lib.byteCells l ++ Lib.strCells s = Lib.byteCells (l ++ s.data.toList) := by
  rw [Lib.byteCells_append]; rfl

/-- The builder's state, its bytes as a list; nothing below B has turned since W. -/
def Bld (B b : Nat) (l : List UInt8) (W w : World) : Prop := Lib.IsBuilderF 34 5 B b (Lib.byteCells l) w ∧ B ≤ w.heap.size ∧ Below B W w

theorem Bld.below {B b : Nat} {l : List UInt8} {W w w' : World} (h : Bld B b l W w) (hb : Below w.heap.size w w') : Bld B b l W w' := by
  have hat : ∀ p, Lib.BuilderAtF 34 5 B b p (Lib.byteCells l) w → Lib.BuilderAtF 34 5 B b p (Lib.byteCells l) w' := by
    intro p hp
    have hlt := hp.lt
    obtain ⟨hB, v, hbk, hown, hne⟩ := hp
    exact ⟨hB, v, (hb.block b hlt).trans hbk, hown.kept (row := none) ⟨hb.os, hb.tape, hb.output, hb.size, fun k hk _ => hb.block k hk⟩ (by cases hv : v.ownBlock <;> simp), hne⟩
  exact ⟨h.1.elim (fun x => .inl (hat _ x)) (fun x => .inr (hat _ x)), Nat.le_trans h.2.1 hb.size, h.2.2.trans (hb.mono h.2.1)⟩

theorem wb_any (B b : Nat) (l : List UInt8) (W w : World) (h : Bld B b l W w) (hlen : l.length + 1 ≤ 140737488355328) :
    Calls Tryd.prog 11 #[.pointer (some ⟨b, 0, none⟩), .int .u8 46] w fun e w' => e = .returned .nilIface ∧ Bld B b (l ++ [46]) W w' := by
  refine (Tryd.Builder_WriteByte_k B b _ 46 w h.1 (by rw [Lib.byteCells_length]; exact hlen) h.2.1).mono fun e w' ⟨he, h1, h2, h3⟩ => ⟨he, .inr ?_, Nat.le_trans h.2.1 h2.size, h.2.2.trans h2⟩
  rw [Lib.byteCells_append]; exact h1

theorem ws_any (B b : Nat) (l : List UInt8) (s : ByteArray) (W w : World) (h : Bld B b l W w) (hlen : l.length + s.size ≤ 140737488355328) :
    Calls Tryd.prog 12 #[.pointer (some ⟨b, 0, none⟩), .string s] w fun e w' => e = .returned (.tuple #[.int .i64 s.size, .nilIface]) ∧ Bld B b (l ++ s.data.toList) W w' := by
  refine (Tryd.Builder_WriteString_k B b _ s w h.1 (by rw [Lib.byteCells_length]; exact hlen) h.2.1).mono fun e w' ⟨he, h1, h2, h3⟩ => ⟨he, .inr ?_, Nat.le_trans h.2.1 h2.size, h.2.2.trans h2⟩
  rw [byteCells_str] at h1; exact h1

theorem getD_lt {L : List Nat} (h : ∀ x ∈ L, x < 18446744073709551616) (k : Nat) : L.getD k 0 < 18446744073709551616 := by
  rw [List.getD_eq_getElem?_getD]
  cases e : L[k]? with
  | none => simp
  | some x => exact h x (List.mem_of_getElem? e)

theorem take_snoc (L : List Nat) (k : Nat) (h : k < L.length) : L.take (k + 1) = L.take k ++ [L.getD k 0] := by
  rw [List.take_add_one, List.getElem?_eq_getElem h, List.getD_eq_getElem?_getD, List.getElem?_eq_getElem h]; rfl

theorem vt_take0 (L : List Nat) (h : 0 < L.length) : vt (L.take (0 + 1)) = vt (L.take 0) ++ Lib.decDigits (L.getD 0 0) := by
  rw [take_snoc L 0 h]; rfl
theorem vt_takeS (L : List Nat) (k : Nat) (h0 : 0 < k) (h : k < L.length) : vt (L.take (k + 1)) = vt (L.take k) ++ [46] ++ Lib.decDigits (L.getD k 0) := by
  rw [take_snoc L k h, vt_append _ _ (by intro e; have := congrArg List.length e; rw [List.length_take, List.length_nil] at this; omega) (by simp), vt_one]; simp

set_option maxHeartbeats 2000000 in
set_option maxRecDepth 100000 in
/-- Vector.String at every vector. -/
theorem vec_any (ao : Option Addr) (n cap : Nat) (L : List Nat) (w : World) (hn : n ≤ 65536) (hrow : Row w ao n L) (htab : TabB w.heap.size w) :
    Calls Tryd.prog 6 #[.slice ao n cap] w fun e w' => ∃ S : ByteArray, e = .returned (.string S) ∧ Hid (S.data.toList = vt L) ∧ S.size ≤ 21 * n ∧ Below w.heap.size w w' := by
  have hB0 : Bld w.heap.size w.heap.size [] w (w.alloc (.cells #[.pointer none, .slice none 0 0] 34)) :=
    ⟨Lib.IsBuilderF.of (Lib.fresh_isBuilder 34 5 w), by simp, (Below.refl _ _).alloc (Nat.le_refl _) _⟩
  have HB0 : Hid (Bld w.heap.size w.heap.size [] w (w.alloc (.cells #[.pointer none, .slice none 0 0] 34))) := hB0
  have HR : Hid (Row w ao n L) := hrow
  have HT : Hid (TabB w.heap.size w) := htab
  have hll : L.length = n := hrow.1
  have HL : Hid (L.length = n) := hll
  clear hB0 hrow htab hll
  go_enter Tryd.func6, Tryd.ntmps6
  go_wp2_with fail
  go_loopw [8] (fun i wr => ∃ k : Nat, k ≤ n ∧ i = .int .i64 k ∧ Hid (Bld w.heap.size w.heap.size (vt (L.take k)) w wr)) (fun i _ => n - (intOf i).toNat)
  case atStart => exact ⟨0, Nat.zero_le _, rfl, HB0⟩
  case round =>
    obtain ⟨k, hk, rfl, hbr⟩ := hrel
    by_cases hlt : k < n
    · obtain ⟨b, off, rfl, hc⟩ := HR.out.2.2 (by omega)
      obtain ⟨z, hz⟩ : ∃ z, z = L.getD k 0 := ⟨_, rfl⟩
      have hz64 : z < 18446744073709551616 := by rw [hz]; exact getD_lt HR.out.2.1 k
      have hcell : wr.cell? ⟨b, off + k, none⟩ = some (.int .u64 (z : Int)) := by
        have h1 := hc k hlt
        rw [← hz] at h1
        exact (hbr.out.2.2.cell (World.block_lt_of_cell? w _ h1)).trans h1
      have hvl := vt_len (L.take k) (fun x hx => HR.out.2.1 x (List.mem_of_mem_take hx))
      rw [List.length_take] at hvl
      have hvl2 : (vt (L.take k)).length ≤ 21 * 65536 := by omega
      have hdl := nd20 z hz64
      have hds : (⟨(Lib.decDigits z).toArray⟩ : ByteArray).size = (Lib.decDigits z).length := by simp [ByteArray.size]
      by_cases hk0 : 0 < k
      · have E : Hid (vt (L.take (k + 1)) = vt (L.take k) ++ [46] ++ Lib.decDigits z) := by rw [Hid, hz]; exact vt_takeS L k hk0 (by rw [HL.out]; exact hlt)
        have hk0' : (0 : Int) < (k : Int) := by omega
        clear hz hvl hc
        go_wp2_with fail
        refine (wb_any _ _ _ w wr hbr.out (by omega)).mono ?_
        rintro e w1 ⟨rfl, h1⟩
        have H1 : Hid (Bld w.heap.size w.heap.size (vt (L.take k) ++ [46]) w w1) := h1
        clear h1 hbr hcell
        go_wp2_with fail
        refine (fmtu_any z hz64 w1 (HT.out w1 H1.out.2.2)).mono ?_
        rintro e w2 ⟨rfl, h2⟩
        have H2 : Hid (Bld w.heap.size w.heap.size (vt (L.take k) ++ [46]) w w2) := H1.out.below h2
        clear h2 H1
        go_wp2_with fail
        refine (ws_any _ _ _ _ w w2 H2.out (by rw [hds, List.length_append]; simp; omega)).mono ?_
        rintro e w3 ⟨rfl, h3⟩
        have H3 : Hid (Bld w.heap.size w.heap.size (vt (L.take (k + 1))) w w3) := by rw [E.out]; exact h3
        clear h3 H2 hds
        go_wp2
        go_roundw
        case rel => exact ⟨k + 1, by omega, by go_num, H3⟩
        case measure => simp [intOf]; omega
      · obtain rfl : k = 0 := by omega
        have E : Hid (vt (L.take (0 + 1)) = vt (L.take 0) ++ Lib.decDigits z) := by rw [Hid, hz]; exact vt_take0 L (by rw [HL.out]; exact hlt)
        rw [Nat.add_zero] at hcell
        clear hz hvl hc
        go_wp2_with fail
        refine (fmtu_any z hz64 wr (HT.out wr hbr.out.2.2)).mono ?_
        rintro e w2 ⟨rfl, h2⟩
        have H2 : Hid (Bld w.heap.size w.heap.size (vt (L.take 0)) w w2) := hbr.out.below h2
        clear h2 hbr hcell
        go_wp2_with fail
        refine (ws_any _ _ _ _ w w2 H2.out (by rw [hds]; omega)).mono ?_
        rintro e w3 ⟨rfl, h3⟩
        have H3 : Hid (Bld w.heap.size w.heap.size (vt (L.take (0 + 1))) w w3) := by rw [E.out]; exact h3
        clear h3 H2 hds
        go_wp2
        go_roundw
        case rel => exact ⟨0 + 1, by omega, by go_num, H3⟩
        case measure => simp [intOf]; omega
    · obtain rfl : k = n := by omega
      have hvl := vt_len L HR.out.2.1
      rw [HL.out] at hvl
      have HF : Hid (Bld w.heap.size w.heap.size (vt L) w wr) := by
        have := hbr.out
        rwa [← HL.out, List.take_length] at this
      clear hbr
      go_wp2_with fail
      refine (Tryd.Builder_String_any_k _ _ (vt L) wr HF.out.1 HF.out.2.1).mono ?_
      rintro e w1 ⟨rfl, _, hb1, _⟩
      have hend := HF.out.2.2.trans hb1
      go_wp2
      go_ret
      exact ⟨_, rfl, rfl, by simpa [ByteArray.size] using hvl, hend⟩

end Go.Proofs.Qxb6627839aDoor
