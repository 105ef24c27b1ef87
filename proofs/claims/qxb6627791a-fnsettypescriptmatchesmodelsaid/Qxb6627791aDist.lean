/-
  zzDistinct.
-/
import Derived.Test.Qxb6627791aStr
namespace Go.Proofs.Qxb6627791a
open Go.RowKit
open Go.Maps
set_option linter.unusedVariables false

/-- The table after k names. -/
def DT (L : List ByteArray) (k : Nat) : List ByteArray := (L.take k).foldl addName [ByteArray.empty]
theorem DT_zero (L : List ByteArray) : DT L 0 = [ByteArray.empty] := rfl
theorem DT_succ (L : List ByteArray) (k : Nat) (h : k < L.length) : DT L (k + 1) = addName (DT L k) (L.getD k ByteArray.empty) := by
  rw [DT, takeS_snoc L k h, List.foldl_append]; rfl
theorem DT_len (L : List ByteArray) : ∀ k, (DT L k).length ≤ k + 1 ∧ 0 < (DT L k).length
  | 0 => by simp [DT_zero]
  | k + 1 => by
    have ih := DT_len L k
    by_cases h : k < L.length
    · rw [DT_succ L k h]
      have := addName_len (DT L k) (L.getD k ByteArray.empty)
      omega
    · have e : DT L (k + 1) = DT L k := by rw [DT, DT, List.take_of_length_le (by omega), List.take_of_length_le (by omega)]
      rw [e]; omega
theorem DT_sizes (L : List ByteArray) (h : ∀ s ∈ L, s.size ≤ maxLen) : ∀ k, ∀ s ∈ DT L k, s.size ≤ maxLen
  | 0 => by
    intro s hs
    rw [DT_zero] at hs
    simp at hs
    subst hs
    decide
  | k + 1 => by
    intro s hs
    have ih := DT_sizes L h k
    by_cases hk : k < L.length
    · rw [DT_succ L k hk] at hs
      by_cases hm : L.getD k ByteArray.empty ∈ DT L k
      · rw [addName_in hm] at hs; exact ih s hs
      · rw [addName_out hm] at hs
        simp only [List.mem_append, List.mem_singleton] at hs
        rcases hs with hs | hs
        · exact ih s hs
        · rw [hs]; exact getS_le h k
    · have e : DT L (k + 1) = DT L k := by rw [DT, DT, List.take_of_length_le (by omega), List.take_of_length_le (by omega)]
      rw [e] at hs
      exact ih s hs

theorem list_ne {A B : ByteArray} (h : A ≠ B) : (A.toList == B.toList) = false := by
  rw [beq_eq_false_iff_ne]
  intro e
  rw [ByteArray.toList_eq, ByteArray.toList_eq] at e
  exact h (bytes_eq e)

/-- A slice of one's own, appended to. -/
theorem own_push {B l q : Nat} {w w2 : World} {who : Nat → Nat × Nat} {e : TypeId} {v v2 X : Value} {xs : List Value} {ob : Obj} (o1 : Own B w who (l, 0) e v xs) (k1 : w2.ownsRow B e 1 v2 (xs.length + 1) (xs ++ [X])) (k2 : ((w.drewN q).alloc ob).grownBy w2 v.ownBlock) (k3 : v2.ownBlock = v.ownBlock ∨ v2.ownBlock = some ((w.drewN q).alloc ob).heap.size) :
    Own B w2 (mark who (w.heap.size + 1) (l, 0)) (l, 0) e v2 (xs ++ [X]) ∧ Turn (fun x => x = l) who w w2 ∧ Same w.heap.size who (mark who (w.heap.size + 1) (l, 0)) := by
  have hga : w.grownBy ((w.drewN q).alloc ob) v.ownBlock := ⟨rfl, rfl, rfl, by simp, fun k hk _ => Below.heap_alloc (w.drewN q) ob k hk⟩
  have hg2 := hga.trans k2
  have hsz : ((w.drewN q).alloc ob).heap.size = w.heap.size + 1 := by simp
  have hsm := mark_same who (w.heap.size + 1) w.heap.size (l, 0) (by omega)
  refine ⟨⟨by rw [List.length_append, List.length_singleton]; exact k1, fun gg hgg => ?_⟩, Turn.grown hg2 (fun k hk => by rw [o1.2 k hk]), hsm⟩
  rcases k3 with k3 | k3
  · rw [k3] at hgg
    rw [hsm gg (o1.1.lt gg hgg).2]
    exact o1.2 gg hgg
  · rw [k3, hsz] at hgg
    cases hgg
    exact mark_at _ _ _

/-- The row stays as long as nothing below B turns. -/
def StabS (B : Nat) (w : World) (ao : Option Addr) (n : Nat) (L : List ByteArray) : Prop := ∀ w', Below B w w' → RowS w' ao n L

set_option maxHeartbeats 2000000 in
set_option maxRecDepth 100000 in
theorem dist_any {B l : Nat} {who : Nat → Nat × Nat} (ao : Option Addr) (n cap : Nat) (L : List ByteArray) (w : World) (hn : n ≤ 4096) (hn0 : 0 < n) (hrow : StabS B w ao n L) (hB : B ≤ w.heap.size) (hw0 : ∀ k, k < B → who k = (0, 0)) (hl : l ≠ 0) :
    Calls Try.prog 9 #[.slice ao n cap] w fun e w' => ∃ a' c', e = .returned (.slice a' (DT L n).length c') ∧ ∃ who', Same w.heap.size who who' ∧ Turn (fun x => x = l) who w w' ∧ Own B w' who' (l, 0) 9 (.slice a' (DT L n).length c') (cellsS (DT L n)) := by
  have HR : Hid (StabS B w ao n L) := hrow
  have hLn : L.length = n := (hrow w (Below.refl _ _)).1
  obtain ⟨i9, hi, hz0, hz1, hz2⟩ := info_parts info9
  have H0 : Hid (Same w.heap.size who (mark who w.heap.size (l, 0)) ∧ Turn (fun x => x = l) who w (w.alloc (.cells #[.string ByteArray.empty] 9)) ∧ Own B (w.alloc (.cells #[.string ByteArray.empty] 9)) (mark who w.heap.size (l, 0)) (l, 0) 9 (.slice (some ⟨w.heap.size, 0, none⟩) 1 1) (cellsS (DT L 0))) := by
    refine ⟨mark_same _ _ _ _ (Nat.le_refl _), Turn.grown (World.grownBy_alloc w _ none) (fun k hk => by cases hk), ⟨rfl, .inr ⟨w.heap.size, 1, #[.string ByteArray.empty], rfl, hB, heap_alloc_new w _, Nat.le_refl _, by unfold maxLen; omega, rfl, rfl⟩⟩, fun gg hgg => ?_⟩
    simp [Value.ownBlock] at hgg
    rw [← hgg]; exact mark_at _ _ _
  clear hrow
  go_enter Try.func9, Try.ntmps9
  go_wp2_with fail
  go_loopw [3, 4] (fun o i wr => ∃ (k go co m : Nat) (who' : Nat → Nat × Nat), k ≤ n ∧ i = .int .i64 k ∧ o = .slice (some ⟨go, 0, none⟩) m co ∧ m ≤ k + 1 ∧ Hid (m = (DT L k).length ∧ Same w.heap.size who who' ∧ Turn (fun x => x = l) who w wr ∧ Own B wr who' (l, 0) 9 (.slice (some ⟨go, 0, none⟩) m co) (cellsS (DT L k)))) (fun _ i _ => n - (intOf i).toNat)
  case atStart => exact ⟨0, w.heap.size, 1, 1, _, Nat.zero_le _, rfl, rfl, by omega, rfl, H0.out⟩
  case round =>
    clear H0
    obtain ⟨k, go, co, m, who1, hk, rfl, rfl, hm, H⟩ := hrel
    by_cases hlt : k < n
    · obtain ⟨em, s1, t1, o1⟩ := H.out
      have hszr := t1.size
      have hbel : Below B w wr := t1.below hB hw0 (fun e => hl e.symm)
      obtain ⟨b, off, rfl, hc⟩ := (HR.out wr hbel).2.2 hn0
      obtain ⟨s, hs⟩ : ∃ s, s = L.getD k ByteArray.empty := ⟨_, rfl⟩
      have hck : wr.cell? ⟨b, off + k, none⟩ = some (.string s) := by rw [hs]; exact hc k hlt
      have hlt' : (k : Int) < (n : Int) := by omega
      have HS : Hid (s = L.getD k ByteArray.empty) := hs
      have HSUC : Hid (DT L (k + 1) = addName (DT L k) s) := by rw [Hid, hs]; exact DT_succ L k (by omega)
      have hcells : ∀ j, j < m → wr.cell? ⟨go, j, none⟩ = some (.string ((DT L k).getD j ByteArray.empty)) := fun j hj => by
        rw [o1.cell (by rw [cellsS_len, em]) j hj, cellsS, List.getElem?_map, getS_some (by omega)]; rfl
      have HC : Hid (∀ j, j < m → wr.cell? ⟨go, j, none⟩ = some (.string ((DT L k).getD j ByteArray.empty))) := hcells
      have HO : Hid (wr.ownsRow B 9 1 (.slice (some ⟨go, 0, none⟩) m co) m (cellsS (DT L k))) := by
        have := o1.1
        rw [cellsS_len, ← em] at this
        exact this
      clear hs hc hcells em s1 t1 o1 hbel
      go_wp2_with fail
      go_loopw [5, 6] (fun f j wx => ∃ (t q : Nat), f = .bool false ∧ j = .int .i64 t ∧ t ≤ m ∧ wx = wr.drewN q ∧ Hid (∀ i, i < t → (DT L k).getD i ByteArray.empty ≠ s)) (fun _ j _ => m - (intOf j).toNat)
      case atStart => exact ⟨0, 0, rfl, rfl, Nat.zero_le _, rfl, fun i hi => absurd hi (Nat.not_lt_zero _)⟩
      case round =>
        obtain ⟨t, q, rfl, rfl, ht, rfl, HN⟩ := hrel
        by_cases htm : t < m
        · obtain ⟨x, hx⟩ : ∃ x, x = (DT L k).getD t ByteArray.empty := ⟨_, rfl⟩
          have hcx : wr.cell? ⟨go, t, none⟩ = some (.string x) := by rw [hx]; exact HC.out t htm
          have htm' : (t : Int) < (m : Int) := by omega
          by_cases he : x = s
          · have HIN : Hid (s ∈ DT L k) := by
              rw [Hid, ← he, hx]
              exact List.mem_of_getElem? (getS_some (by have := H.out.1; omega))
            subst he
            clear hx HN
            go_wp2_with fail
            go_quiet (fail)
            go_wp2
            go_roundw
            case rel =>
              obtain ⟨em, s1, t1, o1⟩ := H.out
              have e2 : DT L (k + 1) = DT L k := by rw [HSUC.out, addName_in HIN.out]
              refine ⟨k + 1, go, co, m, who1, by omega, by go_num, rfl, by omega, ?_⟩
              rw [e2]
              exact ⟨em, s1, t1.drewN _, o1⟩
            case measure => simp [intOf]; omega
          · have hne : (x.toList == s.toList) = false := list_ne he
            have HN2 : Hid (∀ i, i < t + 1 → (DT L k).getD i ByteArray.empty ≠ s) := fun i hi => by
              by_cases e : i = t
              · subst e; rw [← hx]; exact he
              · exact HN.out i (by omega)
            clear hx HN he
            go_wp2_with fail
            go_quiet (fail)
            go_wp2
            go_roundw
            case rel => exact ⟨t + 1, _, rfl, by go_num, by omega, rfl, HN2⟩
            case measure => simp [intOf]; omega
        · have hge : ¬ (t : Int) < (m : Int) := by omega
          obtain rfl : t = m := by omega
          have HOUT : Hid (¬ s ∈ DT L k) := fun hin => by
            obtain ⟨i, hi1, hi2⟩ := List.getElem_of_mem hin
            refine HN.out i (by have := H.out.1; omega) ?_
            rw [List.getD_eq_getElem?_getD, List.getElem?_eq_getElem hi1, hi2]; rfl
          have hBr : B ≤ wr.heap.size := Nat.le_trans hB hszr
          clear HN HC
          go_wp2_with (at_builtin; go_must (refine wpList_append_at1 _ rfl _ _ 23 rfl B 9 i9 (.string ByteArray.empty) 16 Try.underlying23 hi hz0 hz1 hz2 rfl _ _ _ rfl (World.ownsRow.alloc (w := wr.drewN q) HO.out _) ⟨wr.heap.size, 0, none⟩ (.string s) rfl (cell_one_new (wr.drewN q) _ _) rfl (by omega) (by omega) (by simp; omega) ?_); intro g2 c2 w2 k1 k2 k3; have HK : Hid _ := And.intro k1 (And.intro k2 k3); clear k1 k2 k3)
          go_roundw
          case rel =>
            obtain ⟨em, s1, t1, o1⟩ := H.out
            have e2 : DT L (k + 1) = DT L k ++ [s] := by rw [HSUC.out, addName_out HOUT.out]
            obtain ⟨p1, p2, p3⟩ := own_push (q := q) o1 (by rw [cellsS_len, ← em]; exact HK.out.1) HK.out.2.1 HK.out.2.2
            refine ⟨k + 1, by omega, by omega, g2, c2, t + 1, ⟨rfl, rfl, rfl⟩, by omega, mark who1 (wr.heap.size + 1) (l, 0), ?_⟩
            rw [e2, ← cellsS_snoc]
            exact ⟨by rw [List.length_append, List.length_singleton, em], s1.trans p3 hszr, t1.trans p2 s1, p1⟩
          case measure => simp [intOf]; omega
    · obtain rfl : k = n := by omega
      obtain ⟨rfl, s1, t1, o1⟩ := H.out
      have hge : ¬ (k : Int) < (k : Int) := by omega
      have HF : Hid _ := And.intro s1 (And.intro t1 o1)
      clear s1 t1 o1 H
      go_wp2
      go_ret
      exact ⟨_, _, rfl, who1, HF.out⟩

end Go.Proofs.Qxb6627791a
