/-
  padTypes.
-/
import Derived.Test.Qxb6627791aBld
import Derived.Deep.LoopGhost
namespace Go.Proofs.Qxb6627791a
open Go.RowKit
open Go.Maps
set_option linter.unusedVariables false

theorem cellsT_len (ts : List Nat) : (cellsT ts).length = ts.length := by simp [cellsT]
theorem cellsS_len (tb : List ByteArray) : (cellsS tb).length = tb.length := by simp [cellsS]

/-- A builder in a world that has drawn more. -/
theorem Bld.drewN {B : Nat} {w : World} {who : Nat → Nat × Nat} {h g n : Nat} {ts : List Nat} {tb : List ByteArray} (b : Bld B w who h g n ts tb) (q : Nat) : Bld B (w.drewN q) who h g n ts tb := by
  obtain ⟨A, T, N, M, b⟩ := b
  exact ⟨A, T, N, M, b.turn ((Turn.refl (fun _ => False) who w).drewN q) (Same.refl _ _) (fun _ _ e => e)⟩

theorem Turn.fromDrew {C : Nat → Prop} {who : Nat → Nat × Nat} {w w' : World} {q : Nat} (h : Turn C who (w.drewN q) w') : Turn C who w w' := ⟨h.os, h.tape, h.output, h.size, h.block⟩

/-- One number more in the types column. -/
theorem Bld.grew {B h g n : Nat} {w w' : World} {who who' : Nat → Nat × Nat} {ts ts' : List Nat} {tb : List ByteArray} {A T N M v' : Value} (b : BldAt B w who h g n ts tb A T N M) (s : Same w.heap.size who who') (t : Turn (fun x => x = h + 2 ∨ x = h) who w w')
    (hh : w'.heap[g]? = some (.cells ((hdr A T N M).setIfInBounds 3 v') 51 (0, 0))) (hcol : Col B w' who' (h + 2) 49 21 v' (cellsT ts')) : Turn (CH h) who w w' ∧ Bld B w' who' h g n ts' tb := by
  have hne : ∀ x, x = h + 1 ∨ x = h + 3 ∨ x = h + 4 → ¬ (x = h + 2 ∨ x = h) := by omega
  obtain ⟨xa, e, ha⟩ := b.addrs
  exact ⟨t.mono (fun x hx => ⟨by omega, by omega⟩), A, v', N, M, hh, by rw [s g b.glt]; exact b.lab, b.low, ⟨xa, e, ha.turn t s (hne _ (by omega))⟩, hcol, b.names.turn t s (hne _ (by omega)), b.nilN, b.map.turn t s (hne _ (by omega))⟩

set_option maxHeartbeats 2000000 in
theorem pad_any {B h g n : Nat} {who : Nat → Nat × Nat} {ts : List Nat} {tb : List ByteArray} (w : World) (hb : Bld B w who h g n ts tb) (hn : n ≤ 1500000) (ht : ts.length ≤ n) (hB : B ≤ w.heap.size) :
    Calls Try.prog 19 #[.pointer (some ⟨g, 0, none⟩)] w fun e w' => e = .returned (.tuple #[]) ∧ ∃ who', Same w.heap.size who who' ∧ Turn (CH h) who w w' ∧ Bld B w' who' h g n (pad n ts) tb := by
  have HB0 : Hid (Bld B w who h g n ts tb) := hb
  clear hb
  go_enter Try.func19, Try.ntmps19
  go_wp2_with fail
  go_loopg [] (n - ts.length) (fun gk wr => ∃ (k : Nat) (who' : Nat → Nat × Nat), gk = n - k ∧ ts.length ≤ k ∧ k ≤ n ∧ Hid (Same w.heap.size who who' ∧ Turn (CH h) who w wr ∧ Bld B wr who' h g n (ts ++ List.replicate (k - ts.length) 0) tb))
  case atStart => exact ⟨ts.length, who, rfl, Nat.le_refl _, ht, Same.refl _ _, Turn.refl _ _ _, by rw [Nat.sub_self]; simpa using HB0.out⟩
  case round =>
    obtain ⟨k, who1, rfl, hk1, hk2, H⟩ := hrel
    obtain ⟨s1, t1, A, T, N, M, b⟩ := H.out
    have hszr := t1.size
    obtain ⟨xa, e, ha⟩ := b.addrs
    have hcT := (head_cell b.head (off := 3) (v := T) rfl).1
    have hcA := (head_cell b.head (off := 1) (v := A) rfl).1
    have hT : Hid (Col B wr who1 (h + 2) 49 21 T (cellsT (ts ++ List.replicate (k - ts.length) 0))) := b.types
    have hA : Hid (Col B wr who1 (h + 1) 47 28 A xa) := ha
    have hTl : (cellsT (ts ++ List.replicate (k - ts.length) 0)).length = k := by rw [cellsT_len]; simp; omega
    have c23 : ∀ q, Calls Try.prog 23 #[.pointer (some ⟨g, 3, none⟩), .int .i32 0] (wr.drewN q) fun e w' => e = .returned (.tuple #[]) ∧ ∃ who', Hid (Same w.heap.size who who' ∧ Turn (CH h) who w w' ∧ Bld B w' who' h g n (ts ++ List.replicate (k + 1 - ts.length) 0) tb) := fun q => by
      have bq := b.turn ((Turn.refl (fun _ => False) who1 wr).drewN q) (Same.refl _ _) (fun _ _ e => e)
      refine (push32 bq.types (by rw [hTl]; omega) bq.head (off := 3) (v := T) rfl bq.lab (by omega) (Nat.le_trans hB hszr) 0).mono ?_
      rintro e2 w' ⟨rfl, who', v', s, t, hh, hcol⟩
      have ecell : cellsT (ts ++ List.replicate (k - ts.length) 0) ++ [.int .i32 0] = cellsT (ts ++ List.replicate (k + 1 - ts.length) 0) := by
        rw [show k + 1 - ts.length = (k - ts.length) + 1 by omega, List.replicate_succ', ← List.append_assoc]
        simp [cellsT]
      rw [ecell] at hcol
      obtain ⟨t2, b2⟩ := Bld.grew bq s t hh hcol
      exact ⟨rfl, who', s1.trans s hszr, t1.trans (Turn.fromDrew t2) s1, b2⟩
    have HH : Hid (Same w.heap.size who who1 ∧ Turn (CH h) who w wr ∧ Bld B wr who1 h g n (ts ++ List.replicate (k - ts.length) 0) tb) := ⟨s1, t1, A, T, N, M, b⟩
    clear b ha H s1 t1
    have c21 : ∀ q, Calls Try.prog 21 #[.pointer (some ⟨g, 3, none⟩)] (wr.drewN q) fun e w' => e = .returned (.int .i64 (k : Int)) ∧ w' = wr.drewN q := fun q => by
      have := len32 g 3 T _ (wr.drewN q) hcT (hT.out.turn ((Turn.refl (fun _ => False) who1 wr).drewN q) (Same.refl _ _) (fun e => e)) (by rw [hTl]; omega)
      rwa [hTl] at this
    have c22 : ∀ q, Calls Try.prog 22 #[.pointer (some ⟨g, 1, none⟩)] (wr.drewN q) fun e w' => e = .returned (.int .i64 (n : Int)) ∧ w' = wr.drewN q := fun q => by
      have := len64 g 1 A _ (wr.drewN q) hcA (hA.out.turn ((Turn.refl (fun _ => False) who1 wr).drewN q) (Same.refl _ _) (fun e => e)) (by omega)
      rwa [e] at this
    clear hT hA hcT hcA hTl e
    by_cases hkn : k < n
    · go_wp2_with fail
      go_quiet (first | (go_at_call 21; refine Calls.quiet_of_same (c21 _)) | (go_at_call 22; refine Calls.quiet_of_same (c22 _)))
      clear c21 c22 HH
      go_wp2_with fail
      refine (c23 _).mono ?_
      clear c23
      rintro e2 w' ⟨rfl, who', HF⟩
      go_wp2
      go_roundg (n - (k + 1))
      case measure => omega
      case rel => exact ⟨k + 1, who', rfl, by omega, by omega, HF⟩
    · go_wp2_with fail
      go_quiet (first | (go_at_call 21; refine Calls.quiet_of_same (c21 _)) | (go_at_call 22; refine Calls.quiet_of_same (c22 _)))
      clear c21 c22 c23
      obtain rfl : k = n := by omega
      go_wp2
      go_end0
      exact ⟨rfl, who1, HH.out.1, HH.out.2.1.drewN _, HH.out.2.2.drewN _⟩

end Go.Proofs.Qxb6627791a
