/-
  strconv.AppendInt at base ten, onto an array of twenty bytes.
-/
import Derived.Test.Qxb6627766aDoorShelf
import Derived.Test.Qxb6627766aDoorDec
import Derived.Lib.JoinLaws
import Derived.Lib.ItoaMem
import Derived.Lib.AppendIntMem
import Derived.Lib.ItoaWalk
import Derived.CellFam
namespace Go.Proofs.Qxb6627766aDoor
open Go.RowKit
set_option linter.unusedVariables false

theorem info5 : (Tryd.prog.info? 5).map (fun i => (i.zero, i.size, i.bytes)) = some (some (.int .u8 0), 1, 1) := by kernel_rfl

/-- Block D is an array of 20 bytes whose first n are xs. -/
def Held (D n : Nat) (xs : List Value) (w : World) : Prop := ∃ cur, Arr D cur w ∧ cur.toList.take n = xs ∧ xs.length = n

theorem Held.kept {D n : Nat} {xs : List Value} {w w' : World} (h : Held D n xs w) (hb : w'.heap[D]? = w.heap[D]?) : Held D n xs w' := by
  obtain ⟨cur, hA, r⟩ := h
  exact ⟨cur, ⟨hb.trans hA.1, hA.2⟩, r⟩
theorem Held.lt {D n : Nat} {xs : List Value} {w : World} (h : Held D n xs w) : D < w.heap.size := by
  obtain ⟨cur, hA, r⟩ := h
  exact (Array.getElem?_eq_some_iff.1 hA.1).1
theorem Held.cells {D n : Nat} {xs : List Value} {w : World} (h : Held D n xs w) : ∀ j u, xs[j]? = some u → w.cell? ((⟨D, 0, none⟩ : Addr).add j) = some u := by
  obtain ⟨cur, hA, ht, hl⟩ := h
  intro j u hj
  have hjn : j < n := by rw [← hl]; exact (List.getElem?_eq_some_iff.1 hj).1
  rw [Addr.add_lit, Nat.zero_add, hA.cell]
  rw [← ht, List.getElem?_take, if_pos hjn, Array.getElem?_toList] at hj
  exact hj

theorem Arr.sets {D : Nat} : ∀ (vs : List Value) (o : Nat) (cur : Array Value) (w : World), Arr D cur w → o + vs.length ≤ 20 →
    ∃ cur', Arr D cur' (w.setCells D o vs) ∧ cur'.toList = cur.toList.take o ++ vs ++ cur.toList.drop (o + vs.length) ∧ w.grownBy (w.setCells D o vs) (some D)
  | [], o, cur, w, h, _ => ⟨cur, h, by simp, ⟨rfl, rfl, rfl, Nat.le_refl _, fun _ _ _ => rfl⟩⟩
  | v :: vs, o, cur, w, h, hl => by
    have h1 := h.set o v
    obtain ⟨cur', h2, e2, g2⟩ := Arr.sets vs (o + 1) _ _ h1 (by simp at hl; omega)
    have hsz : cur.toList.length = 20 := by rw [Array.length_toList]; exact h.2
    have ho : o < 20 := by simp at hl; omega
    refine ⟨cur', h2, ?_, ?_⟩
    · rw [e2, Array.toList_setIfInBounds]
      have t1 : (cur.toList.set o v).take (o + 1) = cur.toList.take o ++ [v] := by
        rw [List.take_add_one, List.getElem?_set, if_pos rfl, if_pos (by omega), List.take_set, List.set_eq_of_length_le (by simp; omega)]; rfl
      have t2 : (cur.toList.set o v).drop (o + 1 + vs.length) = cur.toList.drop (o + (v :: vs).length) := by
        rw [List.drop_set, if_pos (by omega)]
        congr 1
        simp; omega
      rw [t1, t2]; simp
    · exact ⟨g2.os, g2.tape, g2.output, by have := g2.size; simpa [World.setCells] using this, fun k hk hne => by
        have := g2.block k (by simpa using hk) hne
        rw [show w.setCells D o (v :: vs) = (w.setCell ⟨D, o, none⟩ v).setCells D (o + 1) vs from rfl, this]
        exact heap_setCell_other w ⟨D, o, none⟩ k v (fun e => hne (by simp [e]))⟩

/-- An append that fits into the array. -/
theorem wpList_append_arr (w : World) {ops : Array Oper} {rest : List Oper} {o : Oper} {a : Act} {Q : Exit → Act → World → Prop}
    (hg : o.guard = none) (s x : Operand) (tx : TypeId) (hop : o.op = Op.call { callee := Callee.builtin Builtin.append, args := #[s, x], argTypes := #[30, tx] })
    (D n : Nat) (xs : List Value) (hs : a.eval s = .slice (some ⟨D, 0, none⟩) n 20) (xv : Value) (hx : a.eval x = xv) (m : Nat) (news : List Value) (hsrc : Src Tryd.prog 1 tx xv m news w)
    (hroom : n + m ≤ 20) (hh : Held D n xs w)
    (hK : ∀ w', Held D (n + m) (xs ++ news) w' → w.grownBy w' (some D) → wpList Tryd.prog ops Q rest (a.put o.dst (.slice (some ⟨D, 0, none⟩) (n + m) 20)) w') :
    wpList Tryd.prog ops Q (o :: rest) a w := by
  obtain ⟨cur, hA, ht, hl⟩ := hh
  have hml : news.length = m := by have := hsrc.newsLen; omega
  have hsz : cur.toList.length = 20 := by rw [Array.length_toList]; exact hA.2
  refine wpList_append_room1 w hg s x 30 tx hop 5 (.int .u8 0) 1 Tryd.underlying30 info5 D 0 n 20 hs xv hx m news hsrc hroom (fun j hj => ?_) (fun j _ => hA.frozen _) ?_
  · rw [hA.cell, Array.getElem?_eq_getElem (by have := hA.2; omega)]; rfl
  · rw [Nat.zero_add]
    obtain ⟨cur', h2, e2, g2⟩ := Arr.sets news n cur w hA (by omega)
    refine hK _ ⟨cur', h2, ?_, ?_⟩ g2
    · rw [e2, ht, ← hml]
      exact List.take_left' (by rw [List.length_append, hl])
    · rw [List.length_append, hl, hml]

theorem dd_len (u : Nat) (hu : u < 18446744073709551616) : (Lib.decDigits u).length ≤ 20 := by
  rw [Lib.decDigits_length]
  by_cases h : 1 ≤ u
  · have := Lib.numDigits_eq u h hu; split at this <;> omega
  · rw [Lib.nDigits_small (by omega)]; omega

theorem grownBy_drew_none {w w' : World} {row : Option Nat} (h : w.grownBy w' none) : w.grownBy w' row := ⟨h.os, h.tape, h.output, h.size, fun k hk _ => h.block k hk (by simp)⟩
theorem grownBy_trans {a b c : World} {row : Option Nat} (h : a.grownBy b row) (k : b.grownBy c row) : a.grownBy c row :=
  ⟨k.os.trans h.os, k.tape.trans h.tape, k.output.trans h.output, Nat.le_trans h.size k.size, fun i hi hne => (k.block i (Nat.lt_of_lt_of_le hi h.size) hne).trans (h.block i hi hne)⟩
theorem grownBy_below {a b : World} {row : Option Nat} (h : Below a.heap.size a b) : a.grownBy b row := ⟨h.os, h.tape, h.output, h.size, fun k hk _ => h.block k hk⟩

set_option maxHeartbeats 1000000 in
set_option maxRecDepth 100000 in
theorem appu_small (D n u : Nat) (xs : List Value) (hu : u < 100) (w : World) (hh : Held D n xs w) (hroom : n + (Lib.decDigits u).length ≤ 20) :
    Calls Tryd.prog 20 #[.slice (some ⟨D, 0, none⟩) n 20, .int .u64 u, .int .i64 10] w fun e w' => e = .returned (.slice (some ⟨D, 0, none⟩) (n + (Lib.decDigits u).length) 20) ∧
      Held D (n + (Lib.decDigits u).length) (xs ++ Lib.byteCells (Lib.decDigits u)) w' ∧ w.grownBy w' (some D) := by
  have hsz : (⟨(Lib.decDigits u).toArray⟩ : ByteArray).size = (Lib.decDigits u).length := by simp [ByteArray.size]
  have hsrc : Src Tryd.prog 1 9 (.string ⟨(Lib.decDigits u).toArray⟩) (Lib.decDigits u).length (Lib.byteCells (Lib.decDigits u)) w := by
    have := Src.ofString (P := Tryd.prog) w Tryd.underlying9 ⟨(Lib.decDigits u).toArray⟩
    rw [hsz] at this
    exact this
  go_enter Tryd.func20, Tryd.ntmps20
  go_wp2_with (first
    | (go_at_call 21; refine (Tryd.internal_strconv_small u hu _).mono ?_; rintro e w' ⟨rfl, rfl⟩)
    | (at_builtin; go_must (refine wpList_append_arr _ rfl (.tmp 13) (.tmp 16) 9 rfl D n xs rfl _ rfl _ _ hsrc hroom hh ?_); intro w1 h1 g1))
  go_ret
  exact ⟨rfl, h1, g1⟩

set_option maxHeartbeats 2000000 in
set_option maxRecDepth 100000 in
open Go.Sort in
theorem appu_big (D n u : Nat) (xs : List Value) (hu : 100 ≤ u) (hu64 : u < 18446744073709551616) (w : World) (hh : Held D n xs w) (hroom : n + (Lib.decDigits u).length ≤ 20)
    (htab : Lib.TabIs Tryd.prog w tabN .u64 Lib.pow10Tab) :
    Calls Tryd.prog 20 #[.slice (some ⟨D, 0, none⟩) n 20, .int .u64 u, .int .i64 10] w fun e w' => e = .returned (.slice (some ⟨D, 0, none⟩) (n + (Lib.decDigits u).length) 20) ∧
      Held D (n + (Lib.decDigits u).length) (xs ++ Lib.byteCells (Lib.decDigits u)) w' ∧ w.grownBy w' (some D) := by
  have hu1 : 1 ≤ u := by omega
  have hnd20 : Lib.nDigits u ≤ 20 := by have := Lib.numDigits_eq u hu1 hu64; split at this <;> omega
  have hal : Tryd.prog.arrayLen 49 = 24 := by kernel_rfl
  have hsl : ∀ W, (Instr.sliceAt 49 (.pointer (some ⟨w.heap.size, 0, none⟩)) none (some (.int .i64 (Lib.nDigits u : Int))) none).run Tryd.prog W = .ok (.slice (some ⟨w.heap.size, 0, none⟩) (Lib.nDigits u) 24) W := fun W => by
    rw [run_sliceAt_array_h W 49 ⟨w.heap.size, 0, none⟩ (by kernel_rfl) .i64 (Lib.nDigits u : Int) (by omega) (by rw [hal]; omega)]
    go_simp
  have hH0 := Lib.holds_zero0 w 49 (Lib.nDigits u) (by omega)
  have hfmt := Tryd.internal_strconv_formatBase10 w.heap.size 0 24 u (Array.replicate (Lib.nDigits u) 0) (w.alloc (.cells Lib.zeros24 49)) hH0 (by rw [Array.size_replicate]; exact Lib.lt_pow_nDigits u) hu64 (by rw [Array.size_replicate]; omega)
  rw [Array.size_replicate] at hfmt
  have HH0 := Lib.hid hH0
  have iu : (100 : Int) ≤ (u : Int) := by omega
  clear hH0 hal
  go_enter Tryd.func20, Tryd.ntmps20
  go_wp2_with (go_at_call 22; refine (Tryd.internal_strconv_numDigits u hu1 hu64 _ (Lib.tabIs_alloc htab _)).mono ?_; rintro e w' ⟨rfl, rfl⟩)
  refine hfmt.mono ?_
  rintro e w' ⟨rfl, k, v', dk, rfl, hF⟩
  have hcells : ∀ j u', (Lib.byteCells (Lib.decDigits u))[j]? = some u' → ((putRow (fun (b : UInt8) => Value.int .u8 (b.toNat : Int)) (w.alloc (.cells Lib.zeros24 49)) w.heap.size 0 dk).drewN k).cell? ((⟨w.heap.size, 0, none⟩ : Addr).add j) = some u' := by
    intro j u' hj
    have hjl : j < (Lib.decDigits u).length := by
      have h5 := (List.getElem?_eq_some_iff.1 hj).1
      rwa [Lib.byteCells_length] at h5
    have e5 : (Lib.byteCells (Lib.decDigits u))[j]? = some (Value.int .u8 ((Lib.decDigits u)[j].toNat : Int)) := by simp [Lib.byteCells, hjl]
    rw [e5] at hj
    cases hj
    rw [Lib.row_is_numeral hF j hjl, Lib.add_plain, World.cell?_drewN]
    exact cell?_putRow (fun (b : UInt8) => Value.int .u8 (b.toNat : Int)) _ w.heap.size 0 _ dk HH0.out (by rw [hF.size, Array.size_replicate]) j (by rw [hF.size]; rw [Lib.decDigits_length] at hjl; exact hjl)
  obtain ⟨os, eo⟩ := Lib.fin_at w (.cells Lib.zeros24 49) dk k 0
  have hbel : Below w.heap.size w ((putRow (fun (b : UInt8) => Value.int .u8 (b.toNat : Int)) (w.alloc (.cells Lib.zeros24 49)) w.heap.size 0 dk).drewN k) := by rw [eo]; exact Lib.below_grow w.heap.size w (Nat.le_refl _) k os
  generalize (putRow (fun (b : UInt8) => Value.int .u8 (b.toNat : Int)) (w.alloc (.cells Lib.zeros24 49)) w.heap.size 0 dk).drewN k = W2 at hcells hbel ⊢
  have hh2 : Held D n xs W2 := hh.kept (hbel.block D hh.lt)
  have hdl : (Lib.byteCells (Lib.decDigits u)).length = Lib.nDigits u := by rw [Lib.byteCells_length, Lib.decDigits_length]
  have hsrc : Src Tryd.prog 1 30 (.slice (some ⟨w.heap.size, 0, none⟩) (Lib.nDigits u) 24) (Lib.nDigits u) (Lib.byteCells (Lib.decDigits u)) W2 :=
    Src.ofSlice W2 Tryd.underlying30 ⟨w.heap.size, 0, none⟩ (Lib.nDigits u) 24 _ (by rw [hdl]; omega) hcells (by intro u' hu'; simp only [Lib.byteCells, List.mem_map] at hu'; obtain ⟨b, _, rfl⟩ := hu'; rfl)
  rw [Lib.decDigits_length] at hroom
  clear eo HH0 hfmt hcells hh
  go_wp2_with (at_builtin; go_must (refine wpList_append_arr _ rfl (.tmp 24) (.tmp 26) 30 rfl D n xs rfl _ rfl _ _ hsrc hroom hh2 ?_); intro w3 h3 g3)
  go_ret
  rw [Lib.decDigits_length]
  exact ⟨rfl, h3, grownBy_trans (grownBy_below hbel) g3⟩

theorem appu_any (D n u : Nat) (xs : List Value) (hu64 : u < 18446744073709551616) (w : World) (hh : Held D n xs w) (hroom : n + (Lib.decDigits u).length ≤ 20)
    (htab : Lib.TabIs Tryd.prog w tabN .u64 Lib.pow10Tab) :
    Calls Tryd.prog 20 #[.slice (some ⟨D, 0, none⟩) n 20, .int .u64 u, .int .i64 10] w fun e w' => e = .returned (.slice (some ⟨D, 0, none⟩) (n + (Lib.decDigits u).length) 20) ∧
      Held D (n + (Lib.decDigits u).length) (xs ++ Lib.byteCells (Lib.decDigits u)) w' ∧ w.grownBy w' (some D) := by
  by_cases h : u < 100
  · exact appu_small D n u xs h w hh hroom
  · exact appu_big D n u xs (by omega) hu64 w hh hroom htab

/-- The table reads as it should in w, and in every world that is as w was but for block D and new blocks. -/
def TabFar (D : Nat) (w : World) : Prop := ∀ w', w.grownBy w' (some D) → Lib.TabIs Tryd.prog w' tabN .u64 Lib.pow10Tab

theorem nd19 (u : Nat) (h : u ≤ 9223372036854775808) : (Lib.decDigits u).length ≤ 19 := by
  rw [Lib.decDigits_length]
  by_cases h1 : u < 10
  · rw [Lib.nDigits_small h1]; omega
  · by_cases h19 : Lib.nDigits u ≤ 19
    · exact h19
    · exfalso
      have : ∀ k v, Lib.nDigits v = k + 1 → 1 ≤ v → 10 ^ k ≤ v := by
        intro k
        induction k with
        | zero => intro v _ hv; simpa using hv
        | succ k ih =>
          intro v hv h1v
          by_cases hv10 : v < 10
          · rw [Lib.nDigits_small hv10] at hv; omega
          · rw [Lib.nDigits_big hv10] at hv
            have := ih (v / 10) (by omega) (by omega)
            rw [Nat.pow_succ]; omega
      have h2 := this (Lib.nDigits u - 1) u (by omega) (by omega)
      have h3 : 10 ^ 19 ≤ 10 ^ (Lib.nDigits u - 1) := Nat.pow_le_pow_right (by decide) (by omega)
      have h4 : (10 : Nat) ^ 19 = 10000000000000000000 := by decide
      omega

set_option maxHeartbeats 1000000 in
set_option maxRecDepth 100000 in
theorem appi_in (D : Nat) (i : Int) (h0 : -9223372036854775808 ≤ i) (h1 : i ≤ 9223372036854775807) (w : World) (hh : Held D 0 [] w) (htab : TabFar D w) :
    Calls Tryd.prog 17 #[.slice (some ⟨D, 0, none⟩) 0 20, .int .i64 i, .int .i64 10] w fun e w' => e = .returned (.slice (some ⟨D, 0, none⟩) (Lib.itoa i).length 20) ∧
      Held D (Lib.itoa i).length (Lib.byteCells (Lib.itoa i)) w' ∧ w.grownBy w' (some D) := by
  obtain ⟨u, hu⟩ : ∃ u : Nat, u = i.natAbs := ⟨_, rfl⟩
  have hu64 : u < 18446744073709551616 := by omega
  have hl := nd19 u (by omega)
  by_cases hneg : i < 0
  · have HT : Hid (Lib.itoa i = 45 :: Lib.decDigits u) := itoa_of_neg hneg hu
    obtain rfl : i = -(u : Int) := by omega
    have hwr : IntKind.u64.wrap (-IntKind.u64.wrap (-(u : Int))) = (u : Int) := by rw [IntKind.wrap_u64, IntKind.wrap_u64]; omega
    have hsrc : Src Tryd.prog 1 30 (.slice (some ⟨w.heap.size, 0, none⟩) 1 1) 1 [.int .u8 45] (w.alloc (.cells #[.int .u8 45] 5)) :=
      Src.ofSlice _ Tryd.underlying30 ⟨w.heap.size, 0, none⟩ 1 1 _ rfl (by intro j u' hj; match j, hj with | 0, hj => simp at hj; subst hj; simp [Addr.add]) (by intro u' hu'; simp at hu'; subst hu'; rfl)
    have hh1 : Held D 0 [] (w.alloc (.cells #[.int .u8 45] 5)) := hh.kept (((Below.refl w.heap.size w).alloc (Nat.le_refl _) _).block D hh.lt)
    have hg0 : w.grownBy (w.alloc (.cells #[.int .u8 45] 5)) (some D) := World.grownBy_alloc w _ _
    clear hu
    go_enter Tryd.func17, Tryd.ntmps17
    go_wp2_with (at_builtin; go_must (refine wpList_append_arr _ rfl (.tmp 12) (.tmp 13) 30 rfl D 0 [] rfl _ rfl 1 _ hsrc (by omega) hh1 ?_); intro w1 h1' g1)
    have g01 := grownBy_trans hg0 g1
    have ht1 := htab w1 g01
    clear hsrc hh1 hg0 hh
    go_wp2_with (go_at_call 20; go_must (refine (appu_any D 1 u _ hu64 w1 h1' (by omega) ht1).mono ?_); rintro e w2 ⟨rfl, h2, g2⟩)
    go_ret
    rw [HT.out]
    refine ⟨?_, ?_, grownBy_trans g01 g2⟩
    · rw [List.length_cons, Nat.add_comm]; rfl
    · rw [List.length_cons, Nat.add_comm]
      exact h2
  · have HT : Hid (Lib.itoa i = Lib.decDigits u) := itoa_of_nonneg hneg hu
    obtain rfl : i = (u : Int) := by omega
    have hneg2 : ¬ (u : Int) < 0 := by omega
    have ht1 := htab w ⟨rfl, rfl, rfl, Nat.le_refl _, fun _ _ _ => rfl⟩
    clear hu
    go_enter Tryd.func17, Tryd.ntmps17
    go_wp2_with (go_at_call 20; go_must (refine (appu_any D 0 u _ hu64 w hh (by omega) ht1).mono ?_); rintro e w2 ⟨rfl, h2, g2⟩)
    go_ret
    rw [HT.out]
    rw [Nat.zero_add] at h2
    exact ⟨rfl, h2, g2⟩

theorem appi_any (D : Nat) (i : Int) (h0 : -9223372036854775808 ≤ i) (h1 : i ≤ 9223372036854775807) (w : World) (hh : Held D 0 [] w) (htab : TabFar D w) :
    Calls Tryd.prog 13 #[.slice (some ⟨D, 0, none⟩) 0 20, .int .i64 i, .int .i64 10] w fun e w' => e = .returned (.slice (some ⟨D, 0, none⟩) (Lib.itoa i).length 20) ∧
      Held D (Lib.itoa i).length (Lib.byteCells (Lib.itoa i)) w' ∧ w.grownBy w' (some D) := by
  go_enter Tryd.func13, Tryd.ntmps13
  go_wp2_with (go_at_call 17; go_must (refine (appi_in D i h0 h1 w hh htab).mono ?_); rintro e w2 ⟨rfl, h2, g2⟩)
  go_ret
  exact ⟨rfl, h2, g2⟩

end Go.Proofs.Qxb6627766aDoor
