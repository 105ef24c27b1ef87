/-
  decKeyB1: its answer is the decimal numeral.
-/
import Derived.Test.Qxb6627766aDoorRows
import Derived.WalkKit
import Derived.WalkSpells
import Derived.Lib.ItoaNum
import Derived.Lib.UnsafeStr
import Derived.Laws.BytesArg
import Derived.Laws.Concat
namespace Go.Proofs.Qxb6627766aDoor
open Go.RowKit
set_option linter.unusedVariables false

/-- Block D is an array of 20 bytes, its cells as they stand. -/
def Arr (D : Nat) (cur : Array Value) (w : World) : Prop := w.heap[D]? = some (.cells cur 38 (0, 0)) ∧ cur.size = 20

theorem Arr.cell {D : Nat} {cur : Array Value} {w : World} (h : Arr D cur w) (j : Nat) : w.cell? ⟨D, j, none⟩ = cur[j]? := by simp [World.cell?, h.1]
theorem Arr.frozen {D : Nat} {cur : Array Value} {w : World} (h : Arr D cur w) (j : Nat) : w.frozen? ⟨D, j, none⟩ = false := by simp [World.frozen?, h.1]
theorem Arr.set {D : Nat} {cur : Array Value} {w : World} (h : Arr D cur w) (j : Nat) (u : Value) : Arr D (cur.setIfInBounds j u) (w.setCell ⟨D, j, none⟩ u) :=
  ⟨heap_setCell_same w D j cur 38 u h.1, by rw [Array.size_setIfInBounds]; exact h.2⟩

theorem drop_set (l : List Value) (k : Nat) (u : Value) (h : k < l.length) : (l.set k u).drop k = u :: l.drop (k + 1) := by
  rw [List.drop_eq_getElem_cons (by simpa using h)]
  simp [List.drop_set]

theorem slice_tail (D k : Nat) (hk : k < 20) (W : World) :
    (Instr.sliceAt 38 (.pointer (some ⟨D, 0, none⟩)) (some (.int .i64 (k : Int))) none none).run Tryd.prog W = .ok (.slice (some ⟨D, k, none⟩) (20 - k) (20 - k)) W := by
  have hal : Tryd.prog.arrayLen 38 = 20 := by kernel_rfl
  have hsz : (sizeOf (Tryd.prog.elem 38)).run Tryd.prog W = .ok 1 W := by kernel_rfl
  rw [run_sliceAt_array_l W 38 ⟨D, 0, none⟩ (by kernel_rfl) .i64 (k : Int) (by omega) (by rw [hal]; omega), hsz]
  simp only [Result.andThen, slicedAt, hal, Int.toNat_natCast, Nat.mul_one]
  rw [if_neg (by omega), Addr.add_lit, Nat.zero_add]

theorem conv_tail (D k : Nat) (hk : k < 20) (l : List UInt8) (hl : l.length = 20 - k) (W : World) (hc : ∀ j u, (Lib.byteCells l)[j]? = some u → W.cell? ⟨D, k + j, none⟩ = some u) :
    (convert 30 9 (.slice (some ⟨D, k, none⟩) (20 - k) (20 - k))).run Tryd.prog W = .ok (.string ⟨l.toArray⟩) W := by
  have e : strOfNums (l.map fun b => (b.toNat : Int)) = ⟨l.toArray⟩ := by
    unfold strOfNums
    congr 2
    rw [List.map_map]
    conv => rhs; rw [← List.map_id l]
    refine List.map_congr_left fun b _ => ?_
    simp
  rw [← e]
  refine run_convert_bytes_arg W 30 5 Tryd.underlying30 Tryd.underlying5 D k (20 - k) (20 - k) _ (by simpa using hl) (fun i hi => ?_) 9 Tryd.underlying9
  refine hc i _ ?_
  simp [Lib.byteCells, List.getElem?_eq_getElem (show i < l.length by omega)]

theorem dash_cat (l : List UInt8) : (ByteArray.mk #[45] ++ ByteArray.mk l.toArray) = ⟨(45 :: l).toArray⟩ := ByteArray.mk_append_mk [45] l
theorem itoa_of_neg {n : Int} {u : Nat} (h : n < 0) (hu : u = n.natAbs) : Lib.itoa n = 45 :: Lib.decDigits u := by rw [Lib.itoa, if_pos h, hu]
theorem itoa_of_nonneg {n : Int} {u : Nat} (h : ¬ n < 0) (hu : u = n.natAbs) : Lib.itoa n = Lib.decDigits u := by rw [Lib.itoa, if_neg h, hu]; congr 1; omega

theorem digit_val (v : Nat) : ((UInt8.ofNat (48 + v % 10)).toNat : Int) = 48 + ((v % 10 : Nat) : Int) := by
  rw [UInt8.toNat_ofNat']; omega

/-- What the loop of decKeyB1 holds at its head: k places are left, the digits ds stand behind them. -/
def DecInv (u0 D k v : Nat) (w wr : World) : Prop :=
  ∃ (cur : Array Value) (ds : List UInt8), Arr D cur wr ∧ cur.toList.drop k = Lib.byteCells ds ∧ Lib.decDigits u0 = Lib.decDigits v ++ ds ∧ Below D w wr

theorem dec_step {u0 D k v : Nat} {w wr : World} (h : DecInv u0 D (k + 1) v w wr) (hk : k + 1 ≤ 20) :
    (∃ x, wr.cell? ⟨D, k, none⟩ = some x) ∧ wr.frozen? ⟨D, k, none⟩ = false ∧
    (¬ v < 10 → DecInv u0 D k (v / 10) w (wr.setCell ⟨D, k, none⟩ (.int .u8 (48 + ((v % 10 : Nat) : Int))))) ∧
    (v < 10 → ∀ j u, (Lib.byteCells (Lib.decDigits u0))[j]? = some u → (wr.setCell ⟨D, k, none⟩ (.int .u8 (48 + ((v % 10 : Nat) : Int)))).cell? ⟨D, k + j, none⟩ = some u) ∧
    (v < 10 → (Lib.decDigits u0).length = 20 - k) ∧
    Below D w (wr.setCell ⟨D, k, none⟩ (.int .u8 (48 + ((v % 10 : Nat) : Int)))) := by
  obtain ⟨cur, ds, hA, hd, hu, hb⟩ := h
  have hlen : cur.toList.length = 20 := by rw [Array.length_toList]; exact hA.2
  have hkl : k < cur.size := by have := hA.2; omega
  have hbs : Below D w (wr.setCell ⟨D, k, none⟩ (.int .u8 (48 + ((v % 10 : Nat) : Int)))) := hb.setCell (Nat.le_refl _) _
  have hA' := hA.set k (.int .u8 (48 + ((v % 10 : Nat) : Int)))
  have hdr : (cur.setIfInBounds k (.int .u8 (48 + ((v % 10 : Nat) : Int)))).toList.drop k = Lib.byteCells (UInt8.ofNat (48 + v % 10) :: ds) := by
    rw [Array.toList_setIfInBounds, drop_set _ _ _ (by omega), hd]
    simp only [Lib.byteCells, List.map_cons, digit_val]
  have hdl : ds.length = 20 - (k + 1) := by
    have := congrArg List.length hd
    simp only [List.length_drop, Lib.byteCells, List.length_map, hlen] at this
    omega
  refine ⟨⟨_, by rw [hA.cell, Array.getElem?_eq_getElem hkl]⟩, hA.frozen k, ?_, ?_, ?_, hbs⟩
  · intro hv
    refine ⟨_, UInt8.ofNat (48 + v % 10) :: ds, hA', hdr, ?_, hbs⟩
    rw [hu, Lib.decDigits, dif_neg hv, List.append_assoc]; rfl
  · intro hv j u hj
    have e : Lib.decDigits u0 = UInt8.ofNat (48 + v % 10) :: ds := by
      rw [hu, Lib.decDigits, dif_pos hv, Nat.mod_eq_of_lt hv]; rfl
    rw [e, ← hdr, List.getElem?_drop, Array.getElem?_toList] at hj
    rw [hA'.cell, hj]
  · intro hv
    rw [hu, List.length_append, Lib.decDigits_one hv, hdl]
    simp; omega

set_option maxHeartbeats 1000000 in
set_option maxRecDepth 100000 in
theorem dec_any (n : Int) (h0 : -9223372036854775808 ≤ n) (h1 : n ≤ 9223372036854775807) (w : World) :
    Calls Tryd.prog 8 #[.int .i64 n] w fun e w' => e = .returned (.string ⟨(Lib.itoa n).toArray⟩) ∧ Below w.heap.size w w' := by
  obtain ⟨u0, hu0⟩ : ∃ u0 : Nat, u0 = n.natAbs := ⟨_, rfl⟩
  have hub : u0 < 18446744073709551616 := by omega
  have hnd : Lib.nDigits u0 ≤ 20 := by
    by_cases h : 1 ≤ u0
    · have := Lib.numDigits_eq u0 h hub; split at this <;> omega
    · rw [Lib.nDigits_small (by omega)]; omega
  have hA0 : Arr w.heap.size (Array.replicate 20 (.int .u8 0)) (w.alloc (.cells (Array.replicate 20 (.int .u8 0)) 38)) := ⟨heap_alloc_new w _, by simp⟩
  have HI0 : Hid (DecInv u0 w.heap.size 20 u0 w (w.alloc (.cells (Array.replicate 20 (.int .u8 0)) 38))) :=
    ⟨_, [], hA0, by simp [Lib.byteCells], by simp, (Below.refl _ _).alloc (Nat.le_refl _) _⟩
  have harr : (Array.replicate 20 (Value.int .u8 0)) = #[.int .u8 0, .int .u8 0, .int .u8 0, .int .u8 0, .int .u8 0, .int .u8 0, .int .u8 0, .int .u8 0, .int .u8 0, .int .u8 0, .int .u8 0, .int .u8 0, .int .u8 0, .int .u8 0, .int .u8 0, .int .u8 0, .int .u8 0, .int .u8 0, .int .u8 0, .int .u8 0] := rfl
  rw [harr] at HI0
  clear hA0 harr
  by_cases hneg : n < 0
  · have hun : -(n + 1) + 1 = (u0 : Int) := by omega
    have HT : Hid (Lib.itoa n = 45 :: Lib.decDigits u0) := itoa_of_neg hneg hu0
    clear hu0
    go_enter Tryd.func8, Tryd.ntmps8
    go_wp2_with fail
    clear hun
    go_loopw [4, 6] (fun i u wr => ∃ (k v : Nat), k < 20 ∧ i = .int .i64 ((k : Int) + 1) ∧ u = .int .u64 v ∧ v < 18446744073709551616 ∧ Lib.nDigits v ≤ k + 1 ∧ Hid (DecInv u0 w.heap.size (k + 1) v w wr)) (fun i _ _ => (intOf i).toNat)
    case atStart => exact ⟨19, u0, by omega, rfl, rfl, hub, hnd, HI0⟩
    case round =>
      obtain ⟨k, v, hk, rfl, rfl, hv64, hnv, HI⟩ := hrel
      obtain ⟨⟨x, hx⟩, hfz, hgo, hst, hln, hbs⟩ := dec_step HI.out (by omega)
      have HB : Hid (Below w.heap.size w (wr.setCell ⟨w.heap.size, k, none⟩ (.int .u8 (48 + ((v % 10 : Nat) : Int))))) := hbs
      by_cases hv : v < 10
      · have hv0 : (v : Int) / 10 = 0 := by omega
        have hvm : (v : Int) % 10 = (v : Int) := by omega
        have hcast : ((v % 10 : Nat) : Int) = (v : Int) := by omega
        have hst' := hst hv
        have hln' := hln hv
        rw [hcast] at hst' HB
        have hsl := slice_tail w.heap.size k hk
        have hcv := conv_tail w.heap.size k hk (Lib.decDigits u0) hln' _ hst'
        have hl20 : (Lib.decDigits u0).length ≤ 20 := by omega
        clear hgo hst hln hcast hst' hln' hbs
        go_wp2
        go_ret
        exact ⟨by rw [HT.out]; exact congrArg (fun s => Ending.returned (Value.string s)) (dash_cat _), HB.out⟩
      · have hv0 : ((v : Int) / 10 == 0) = false := by simp; omega
        have e10 : ((v % 10 : Nat) : Int) = (v : Int) % 10 := by omega
        have H2 : Hid (DecInv u0 w.heap.size k (v / 10) w (wr.setCell ⟨w.heap.size, k, none⟩ (.int .u8 (48 + (v : Int) % 10)))) := by
          have := hgo hv; rwa [e10] at this
        have hb10 : 0 ≤ (v : Int) % 10 ∧ (v : Int) % 10 < 10 := by omega
        have hb11 : 1 ≤ (v : Int) / 10 ∧ (v : Int) / 10 < 18446744073709551616 := by omega
        have hn2 : Lib.nDigits (v / 10) + 1 = Lib.nDigits v := (Lib.nDigits_big hv).symm
        have hn3 : 1 ≤ Lib.nDigits (v / 10) := Lib.nDigits_pos _
        have hn4 : Lib.nDigits (v / 10) ≤ k := by omega
        clear hgo hst hln hbs HB e10 hn2 hnv
        go_wp2
        go_roundw
        case rel => exact ⟨k - 1, v / 10, by omega, by go_num, by go_num, by omega, by omega, by rw [Nat.sub_add_cancel (by omega)]; exact H2⟩
        case measure => simp [intOf]
  · have hun : n = (u0 : Int) := by omega
    have HT : Hid (Lib.itoa n = Lib.decDigits u0) := itoa_of_nonneg hneg hu0
    clear hu0
    subst hun
    have hneg2 : ¬ (u0 : Int) < 0 := by omega
    go_enter Tryd.func8, Tryd.ntmps8
    go_wp2_with fail
    go_loopw [4, 6] (fun i u wr => ∃ (k v : Nat), k < 20 ∧ i = .int .i64 ((k : Int) + 1) ∧ u = .int .u64 v ∧ v < 18446744073709551616 ∧ Lib.nDigits v ≤ k + 1 ∧ Hid (DecInv u0 w.heap.size (k + 1) v w wr)) (fun i _ _ => (intOf i).toNat)
    case atStart => exact ⟨19, u0, by omega, rfl, rfl, hub, hnd, HI0⟩
    case round =>
      obtain ⟨k, v, hk, rfl, rfl, hv64, hnv, HI⟩ := hrel
      obtain ⟨⟨x, hx⟩, hfz, hgo, hst, hln, hbs⟩ := dec_step HI.out (by omega)
      have HB : Hid (Below w.heap.size w (wr.setCell ⟨w.heap.size, k, none⟩ (.int .u8 (48 + ((v % 10 : Nat) : Int))))) := hbs
      by_cases hv : v < 10
      · have hv0 : (v : Int) / 10 = 0 := by omega
        have hvm : (v : Int) % 10 = (v : Int) := by omega
        have hcast : ((v % 10 : Nat) : Int) = (v : Int) := by omega
        have hst' := hst hv
        have hln' := hln hv
        rw [hcast] at hst' HB
        have hsl := slice_tail w.heap.size k hk
        have hcv := conv_tail w.heap.size k hk (Lib.decDigits u0) hln' _ hst'
        have hl20 : (Lib.decDigits u0).length ≤ 20 := by omega
        clear hgo hst hln hcast hst' hln' hbs
        go_wp2
        go_ret
        exact ⟨by rw [HT.out]; rfl, HB.out⟩
      · have hv0 : ((v : Int) / 10 == 0) = false := by simp; omega
        have e10 : ((v % 10 : Nat) : Int) = (v : Int) % 10 := by omega
        have H2 : Hid (DecInv u0 w.heap.size k (v / 10) w (wr.setCell ⟨w.heap.size, k, none⟩ (.int .u8 (48 + (v : Int) % 10)))) := by
          have := hgo hv; rwa [e10] at this
        have hb10 : 0 ≤ (v : Int) % 10 ∧ (v : Int) % 10 < 10 := by omega
        have hb11 : 1 ≤ (v : Int) / 10 ∧ (v : Int) / 10 < 18446744073709551616 := by omega
        have hn2 : Lib.nDigits (v / 10) + 1 = Lib.nDigits v := (Lib.nDigits_big hv).symm
        have hn3 : 1 ≤ Lib.nDigits (v / 10) := Lib.nDigits_pos _
        have hn4 : Lib.nDigits (v / 10) ≤ k := by omega
        clear hgo hst hln hbs HB e10 hn2 hnv
        go_wp2
        go_roundw
        case rel => exact ⟨k - 1, v / 10, by omega, by go_num, by go_num, by omega, by omega, by rw [Nat.sub_add_cancel (by omega)]; exact H2⟩
        case measure => simp [intOf]

end Go.Proofs.Qxb6627766aDoor
