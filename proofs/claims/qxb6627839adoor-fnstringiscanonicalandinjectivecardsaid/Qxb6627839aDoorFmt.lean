/-
  strconv.FormatUint at base ten.
-/
import Derived.Test.Qxb6627839aDoorShelf
import Derived.WalkKit
import Derived.WalkSpells
import Derived.Lib.ItoaMem
import Derived.Lib.AppendIntMem
import Derived.Lib.ItoaWalk
import Derived.Laws.BytesArg
import Derived.CellFam
namespace Go.Proofs.Qxb6627839aDoor
open Go.RowKit
set_option linter.unusedVariables false

/-- The table reads as it should in every world that is, below B, as w was. -/
def TabB (B : Nat) (w : World) : Prop := ∀ w', Below B w w' → Lib.TabIs Tryd.prog w' tabN .u64 Lib.pow10Tab
theorem TabB.next {B : Nat} {w w' : World} (h : TabB B w) (hb : Below B w w') : TabB B w' := fun w'' h2 => h w'' (hb.trans h2)
theorem TabB.here {B : Nat} {w : World} (h : TabB B w) : Lib.TabIs Tryd.prog w tabN .u64 Lib.pow10Tab := h w (Below.refl _ _)

theorem conv_row (D n : Nat) (l : List UInt8) (hl : l.length = n) (W : World) (hc : ∀ j u, (Lib.byteCells l)[j]? = some u → W.cell? ((⟨D, 0, none⟩ : Addr).add j) = some u) :
    (convert 32 9 (.slice (some ⟨D, 0, none⟩) n 24)).run Tryd.prog W = .ok (.string ⟨l.toArray⟩) W := by
  have e : strOfNums (l.map fun b => (b.toNat : Int)) = ⟨l.toArray⟩ := by
    unfold strOfNums
    congr 2
    rw [List.map_map]
    conv => rhs; rw [← List.map_id l]
    refine List.map_congr_left fun b _ => ?_
    simp
  rw [← e]
  refine run_convert_bytes_arg W 32 5 Tryd.underlying32 Tryd.underlying5 D 0 n 24 _ (by simpa using hl) (fun i hi => ?_) 9 Tryd.underlying9
  rw [← Addr.add_lit]
  refine hc i _ ?_
  simp [Lib.byteCells, List.getElem?_eq_getElem (show i < l.length by omega)]

set_option maxHeartbeats 2000000 in
set_option maxRecDepth 100000 in
open Go.Sort in
theorem fmtu_in (u : Nat) (hu64 : u < 18446744073709551616) (w : World) (htab : Lib.TabIs Tryd.prog w tabN .u64 Lib.pow10Tab) :
    Calls Tryd.prog 16 #[.int .u64 u, .int .i64 10] w fun e w' => e = .returned (.string ⟨(Lib.decDigits u).toArray⟩) ∧ Below w.heap.size w w' := by
  by_cases hs : u < 100
  · go_enter Tryd.func16, Tryd.ntmps16
    go_wp2_with (go_at_call 18; refine (Tryd.internal_strconv_small u hs _).mono ?_; rintro e w' ⟨rfl, rfl⟩)
    go_ret
    exact ⟨rfl, Below.refl _ _⟩
  · have hu1 : 1 ≤ u := by omega
    have hnd20 : Lib.nDigits u ≤ 20 := by have := Lib.numDigits_eq u hu1 hu64; split at this <;> omega
    have hal : Tryd.prog.arrayLen 45 = 24 := by kernel_rfl
    have hsl : ∀ W, (Instr.sliceAt 45 (.pointer (some ⟨w.heap.size, 0, none⟩)) none (some (.int .i64 (Lib.nDigits u : Int))) none).run Tryd.prog W = .ok (.slice (some ⟨w.heap.size, 0, none⟩) (Lib.nDigits u) 24) W := fun W => by
      rw [run_sliceAt_array_h W 45 ⟨w.heap.size, 0, none⟩ (by kernel_rfl) .i64 (Lib.nDigits u : Int) (by omega) (by rw [hal]; omega)]
      go_simp
    have hH0 := Lib.holds_zero0 w 45 (Lib.nDigits u) (by omega)
    have hfmt := Tryd.internal_strconv_formatBase10 w.heap.size 0 24 u (Array.replicate (Lib.nDigits u) 0) (w.alloc (.cells Lib.zeros24 45)) hH0 (by rw [Array.size_replicate]; exact Lib.lt_pow_nDigits u) hu64 (by rw [Array.size_replicate]; omega)
    rw [Array.size_replicate] at hfmt
    have HH0 := Lib.hid hH0
    have iu : (100 : Int) ≤ (u : Int) := by omega
    clear hH0 hal
    go_enter Tryd.func16, Tryd.ntmps16
    go_wp2_with (go_at_call 19; refine (Tryd.internal_strconv_numDigits u hu1 hu64 _ (Lib.tabIs_alloc htab _)).mono ?_; rintro e w' ⟨rfl, rfl⟩)
    refine hfmt.mono ?_
    rintro e w' ⟨rfl, k, v', dk, rfl, hF⟩
    have hcells : ∀ j u', (Lib.byteCells (Lib.decDigits u))[j]? = some u' → ((putRow (fun (b : UInt8) => Value.int .u8 (b.toNat : Int)) (w.alloc (.cells Lib.zeros24 45)) w.heap.size 0 dk).drewN k).cell? ((⟨w.heap.size, 0, none⟩ : Addr).add j) = some u' := by
      intro j u' hj
      have hjl : j < (Lib.decDigits u).length := by
        have h5 := (List.getElem?_eq_some_iff.1 hj).1
        rwa [Lib.byteCells_length] at h5
      have e5 : (Lib.byteCells (Lib.decDigits u))[j]? = some (Value.int .u8 ((Lib.decDigits u)[j].toNat : Int)) := by simp [Lib.byteCells, hjl]
      rw [e5] at hj
      cases hj
      rw [Lib.row_is_numeral hF j hjl, Lib.add_plain, World.cell?_drewN]
      exact cell?_putRow (fun (b : UInt8) => Value.int .u8 (b.toNat : Int)) _ w.heap.size 0 _ dk HH0.out (by rw [hF.size, Array.size_replicate]) j (by rw [hF.size]; rw [Lib.decDigits_length] at hjl; exact hjl)
    obtain ⟨os, eo⟩ := Lib.fin_at w (.cells Lib.zeros24 45) dk k 0
    have hbel : Below w.heap.size w ((putRow (fun (b : UInt8) => Value.int .u8 (b.toNat : Int)) (w.alloc (.cells Lib.zeros24 45)) w.heap.size 0 dk).drewN k) := by rw [eo]; exact Lib.below_grow w.heap.size w (Nat.le_refl _) k os
    generalize (putRow (fun (b : UInt8) => Value.int .u8 (b.toNat : Int)) (w.alloc (.cells Lib.zeros24 45)) w.heap.size 0 dk).drewN k = W2 at hcells hbel ⊢
    have hcv := conv_row w.heap.size (Lib.nDigits u) (Lib.decDigits u) (Lib.decDigits_length u) W2 hcells
    clear eo HH0 hfmt hcells htab
    go_wp2
    go_ret
    exact ⟨rfl, hbel⟩

theorem fmtu_any (u : Nat) (hu64 : u < 18446744073709551616) (w : World) (htab : Lib.TabIs Tryd.prog w tabN .u64 Lib.pow10Tab) :
    Calls Tryd.prog 13 #[.int .u64 u, .int .i64 10] w fun e w' => e = .returned (.string ⟨(Lib.decDigits u).toArray⟩) ∧ Below w.heap.size w w' := by
  go_enter Tryd.func13, Tryd.ntmps13
  go_wp2_with (go_at_call 16; go_must (refine (fmtu_in u hu64 w htab).mono ?_); rintro e w2 ⟨rfl, h2⟩)
  go_ret
  exact ⟨rfl, h2⟩

end Go.Proofs.Qxb6627839aDoor
