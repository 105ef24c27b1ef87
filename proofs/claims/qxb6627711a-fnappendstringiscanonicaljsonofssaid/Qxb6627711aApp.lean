/-
  jcs.AppendString, onto a slice whose capacity is its length: what it hands back lies in new memory and holds the old bytes, a quote, the canonical text of s, a quote; nothing that was there turns.
-/
import Derived.Test.Qxb6627711aRows
import Derived.Test.Qxb6627711aLaws
import Derived.Test.Qxb6627711aPlain
import Derived.WalkKit
import Derived.WalkSpells
namespace Go.Proofs.Qxb6627711a
open Go.RowKit Pl
set_option linter.unusedVariables false

theorem info5 : (Try.prog.info? 5).map (fun i => (i.zero, i.size, i.bytes)) = some (some (.int .u8 0), 1, 1) := by kernel_rfl

theorem ownsRow_mono {w : World} {b b' : Nat} {e : TypeId} {size : Nat} {v : Value} {n : Nat} {xs : List Value} (h : w.ownsRow b e size v n xs) (hb : b' ≤ b) : w.ownsRow b' e size v n xs := by
  obtain ⟨h1, h2⟩ := h
  refine ⟨h1, h2.elim .inl fun h2 => .inr ?_⟩
  obtain ⟨g, cap, cur, rfl, hbg, rest⟩ := h2
  exact ⟨g, cap, cur, rfl, Nat.le_trans hb hbg, rest⟩

theorem and15 (c : Nat) (h : c < 32) : bits BinOp.and IntKind.u8 (c : Int) 15 = (c : Int) % 16 := by
  have : ∀ m : Fin 32, bits BinOp.and IntKind.u8 ((m : Nat) : Int) 15 = ((m : Nat) : Int) % 16 := by decide
  exact this ⟨c, h⟩

theorem hex_at (c : Int) (h0 : 0 ≤ c) (h : c < 16) (hx : c.toNat < (ByteArray.mk #[48, 49, 50, 51, 52, 53, 54, 55, 56, 57, 97, 98, 99, 100, 101, 102]).size) :
    ((((ByteArray.mk #[48, 49, 50, 51, 52, 53, 54, 55, 56, 57, 97, 98, 99, 100, 101, 102])[c.toNat]'hx).toNat : Nat) : Int) = hexd c := by
  obtain ⟨m, rfl⟩ := Int.eq_ofNat_of_zero_le h0
  have : ∀ m : Fin 16, ((((ByteArray.mk #[48, 49, 50, 51, 52, 53, 54, 55, 56, 57, 97, 98, 99, 100, 101, 102])[m.val]'m.isLt).toNat : Nat) : Int) = hexd (m.val : Int) := by decide
  exact this ⟨m, by omega⟩

theorem rel_esc {B n j k : Nat} {olds acc : List Int} {s : ByteArray} {v3 : Value} {w w3 : World} (hk : k < s.size) (hj : j ≤ k) (hal : acc.length + (k - j) ≤ 6 * k)
    (H : Hid (acc ++ ((zs s).take k).drop j ++ esc ((s[k].toNat : Nat) : Int) ++ ((zs s).take (k + 1)).drop (k + 1) = escL ((zs s).take (k + 1))))
    (cs : Array Value) (hcs : cs.toList = (esc ((s[k].toNat : Nat) : Int)).map (Value.int .u8))
    (hb : OwnB B 5 v3 (n + 1 + acc.length + (s.extract j k).size + cs.size) ((olds ++ [34] ++ acc).map (Value.int .u8) ++ Lib.strCells (s.extract j k) ++ cs.toList) w w3) :
    ∃ acc' : List Int, acc'.length + ((k + 1) - (k + 1)) ≤ 6 * (k + 1) ∧ Hid (OwnB B 5 v3 (n + 1 + acc'.length) ((olds ++ [34] ++ acc').map (Value.int .u8)) w w3) ∧ Hid (acc' ++ ((zs s).take (k + 1)).drop (k + 1) = escL ((zs s).take (k + 1))) := by
  have hsz : (s.extract j k).size = k - j := by simp [ByteArray.size_extract]; omega
  have hml : (((zs s).take k).drop j).length = k - j := by rw [← zs_extract, zs_length, hsz]
  have hcl : cs.size = (esc ((s[k].toNat : Nat) : Int)).length := by rw [← Array.length_toList, hcs, List.length_map]
  have hel := esc_len ((s[k].toNat : Nat) : Int)
  refine ⟨acc ++ ((zs s).take k).drop j ++ esc ((s[k].toNat : Nat) : Int), ?_, ?_, H⟩
  · simp only [List.length_append, hml]; omega
  · rw [strCells_eq, zs_extract, hcs, hsz, hcl] at hb
    have e1 : n + 1 + (acc ++ ((zs s).take k).drop j ++ esc ((s[k].toNat : Nat) : Int)).length = n + 1 + acc.length + (k - j) + (esc ((s[k].toNat : Nat) : Int)).length := by
      simp only [List.length_append, hml]; omega
    rw [Hid, e1]
    simpa only [List.map_append, List.append_assoc] using hb

set_option maxHeartbeats 1000000 in
set_option maxRecDepth 100000 in
theorem append_any (ao : Option Addr) (n : Nat) (olds : List Int) (s : ByteArray) (w : World) (hs : s.size ≤ maxLen) (hnone : ao = none → n = 0) (hlo : olds.length = n)
    (holds : ∀ b, ao = some b → ∀ j, j < n → w.cell? (b.add j) = some (.int .u8 (olds.getD j 0))) (hlen : n + 6 * s.size + 2 ≤ 140737488355328) :
    Calls Try.prog 7 #[.slice ao n n, .string s] w fun e w' => ∃ v, e = .returned v ∧
      OwnB w.heap.size 5 v (n + 1 + (escL (zs s)).length + 1) ((olds ++ [34] ++ escL (zs s) ++ [34]).map (Value.int .u8)) w w' := by
  obtain ⟨i0, hi, hz0, hz1, hz2⟩ := info_parts info5
  go_enter Try.func7, Try.ntmps7
  go_wp2_with (at_builtin; go_must (refine wpList_append_grows _ rfl (.tmp 8) (.tmp 9) 22 rfl 5 i0 (.int .u8 0) 1 1 Try.underlying22 hi hz0 hz1 hz2 rfl (by decide) ao n n (olds.map (Value.int .u8)) rfl ?g1 ?g2 ?g3 ⟨w.heap.size, 0, none⟩ 1 1 [.int .u8 34] rfl rfl ?g4 ?g5 ?g6 ?g7 ?g8 ?_))
  case g1 => exact fun h => ⟨hnone h, hnone h⟩
  case g2 => simpa using hlo
  case g3 =>
    intro b hb j u hj
    have hjn : j < n := by
      have := (List.getElem?_eq_some_iff.1 hj).1
      simpa [hlo] using this
    have hc := holds b hb j hjn
    have hlt := World.block_lt_of_cell? w (b.add j) hc
    rw [((Below.refl w.heap.size w).alloc (Nat.le_refl _) _).cell hlt, hc, ← hj]
    have hjl : j < olds.length := by omega
    simp [List.getElem?_map, List.getElem?_eq_getElem hjl]
  case g4 =>
    intro j u hj
    match j, hj with
    | 0, hj => simp at hj; subst hj; simp [Addr.add]
    | (j + 1), hj => simp at hj
  case g5 => intro u hu; simp at hu; subst hu; rfl
  case g6 => omega
  case g7 => unfold maxLen; omega
  case g8 => omega
  intro v1 w1 hown1 hgrow1
  have hb1 : OwnB w.heap.size 5 v1 (n + 1) ((olds ++ [34]).map (Value.int .u8)) w w1 := by
    have h0 : Below w.heap.size w (w.alloc (.cells #[.int .u8 34] 5)) := (Below.refl w.heap.size w).alloc (Nat.le_refl _) _
    refine ⟨?_, h0.grown hgrow1 h0.size (fun k h => by cases h), Nat.le_trans h0.size hgrow1.size⟩
    have := ownsRow_mono hown1 (b' := w.heap.size) (by omega)
    simpa using this
  have HB1 : Hid (OwnB w.heap.size 5 v1 (n + 1) ((olds ++ [34]).map (Value.int .u8)) w w1) := hb1
  have HO : Hid (olds.length = n) := hlo
  unfold maxLen at hs
  clear holds hown1 hgrow1 hb1 hlo hnone
  go_wp2
  go_loopw [0, 5, 6, 7] (fun v wri i _ wr => ∃ (k j : Nat) (acc : List Int), k ≤ s.size ∧ j ≤ k ∧ wri = .int .i64 j ∧ i = .int .i64 k ∧ acc.length + (k - j) ≤ 6 * k ∧
      Hid (OwnB w.heap.size 5 v (n + 1 + acc.length) ((olds ++ [34] ++ acc).map (Value.int .u8)) w wr) ∧ Hid (acc ++ ((zs s).take k).drop j = escL ((zs s).take k)))
    (fun _ _ i _ _ => s.size - (intOf i).toNat)
  case atStart => exact ⟨0, 0, [], Nat.zero_le _, Nat.le_refl _, rfl, rfl, by simp, by simpa [Hid] using HB1.out, by simp [Hid, escL]⟩
  case round =>
    obtain ⟨k, j, acc, hk, hj, rfl, rfl, hal, hbr, hq⟩ := hrel
    by_cases hlt : k < s.size
    · have h255 := UInt8.toNat_lt s[k]
      by_cases hp : 32 ≤ (s[k].toNat : Int) ∧ (s[k].toNat : Int) ≠ 34 ∧ (s[k].toNat : Int) ≠ 92
      · obtain ⟨hp1, hp2, hp3⟩ := hp
        have e1 : ((s[k].toNat : Int) != 34) = true := by simpa using hp2
        have e2 : ((s[k].toNat : Int) != 92) = true := by simpa using hp3
        go_wp2
        go_roundw
        case rel => exact ⟨k + 1, j, acc, by omega, by omega, rfl, by go_num, by omega, hbr, step_plain hlt hj hq.out (esc_plain _ hp1 hp2 hp3)⟩
        case measure => simp [intOf]; omega
      · have hsz : (s.extract j k).size = k - j := by simp [ByteArray.size_extract]; omega
        have hbx := hbr.out
        have HS := step_esc (acc := acc) (j := j) hlt hq.out
        have HSH : Hid (acc ++ ((zs s).take k).drop j ++ esc ((s[k].toNat : Nat) : Int) ++ ((zs s).take (k + 1)).drop (k + 1) = escL ((zs s).take (k + 1))) := HS
        have hcases : (s[k].toNat : Int) = 34 ∨ (s[k].toNat : Int) = 92 ∨ (s[k].toNat : Int) = 8 ∨ (s[k].toNat : Int) = 9 ∨ (s[k].toNat : Int) = 10 ∨ (s[k].toNat : Int) = 12 ∨ (s[k].toNat : Int) = 13 ∨ ((s[k].toNat : Int) < 32 ∧ (s[k].toNat : Int) ≠ 8 ∧ (s[k].toNat : Int) ≠ 9 ∧ (s[k].toNat : Int) ≠ 10 ∧ (s[k].toNat : Int) ≠ 12 ∧ (s[k].toNat : Int) ≠ 13) := by omega
        clear HS hp hbr hq
        rcases hcases with hc | hc | hc | hc | hc | hc | hc | hc
        rotate_left 7
        · obtain ⟨hc0, hc1, hc2, hc3, hc4, hc5⟩ := hc
          have hx1 : 0 ≤ (s[k].toNat : Int) / 16 ∧ (s[k].toNat : Int) / 16 < 16 := by omega
          have hx2 : 0 ≤ (s[k].toNat : Int) % 16 ∧ (s[k].toNat : Int) % 16 < 16 := by omega
          have hand := and15 s[k].toNat (by omega)
          go_wp2_with (at_builtin; (refine wpList_append_str rfl (.tmp 30) (.tmp 34) 22 9 rfl w.heap.size 5 i0 Try.underlying22 Try.underlying9 hi hz0 hz1 hz2 _ _ _ rfl w hbx _ rfl (by omega) ?_; intro v2 w2 hb2))
          go_region_law (refine step_append_cells rfl (.tmp 39) (.tmp 46) 22 rfl w.heap.size 5 i0 Try.underlying22 hi hz0 hz1 hz2 v2 _ _ rfl w w2.drew _ (OwnB.drew hb2) 6 rfl rfl (by simp [Value.oneCell']) (by omega) ?_; intro v3 w3 hb3)
          all_goals
            obtain ⟨acc', r1, r2, r3⟩ := rel_esc hlt hj hal HSH _ (by rw [esc_hex _ hc0 hc1 hc2 hc3 hc4 hc5]; simp only [List.map_cons, List.map_nil]; rw [hex_at _ hx1.1 hx1.2, hex_at _ hx2.1 hx2.2]) hb3
            clear hb3 hand HSH hbx hb2
            go_wp2
            go_roundw
            case rel => exact ⟨k + 1, k + 1, acc', by omega, by omega, by go_num, by go_num, r1, r2, r3⟩
            case measure => simp [intOf]; omega
        all_goals
          go_wp2_with (at_builtin; first
            | (refine wpList_append_str rfl (.tmp 30) (.tmp 34) 22 9 rfl w.heap.size 5 i0 Try.underlying22 Try.underlying9 hi hz0 hz1 hz2 _ _ _ rfl w hbx _ rfl (by omega) ?_; intro v2 w2 hb2)
            | (refine wpList_append_cells rfl _ _ 22 rfl w.heap.size 5 i0 Try.underlying22 hi hz0 hz1 hz2 v2 _ _ rfl w w2 _ hb2 rfl (by simp [Value.oneCell']) (by simp only [Array.size, List.length_cons, List.length_nil]; omega) ?_; intro v3 w3 hb3))
          obtain ⟨acc', r1, r2, r3⟩ := rel_esc hlt hj hal HSH _ (by rw [hc]; rfl) hb3
          go_roundw
          case rel => exact ⟨k + 1, k + 1, acc', by omega, by omega, by go_num, by go_num, r1, r2, r3⟩
          case measure => simp [intOf]; omega
    · obtain rfl : k = s.size := by omega
      have hbx := hbr.out
      have hjs : (s.extract j s.size).size = s.size - j := by simp [ByteArray.size_extract]
      have hel := escL_len (zs s)
      rw [zs_length] at hel
      go_wp2_with (at_builtin; first
        | (refine wpList_append_str rfl (.tmp 80) (.tmp 83) 22 9 rfl w.heap.size 5 i0 Try.underlying22 Try.underlying9 hi hz0 hz1 hz2 _ _ _ rfl w hbx _ rfl (by omega) ?_; intro v2 w2 hb2)
        | (refine wpList_append_cells rfl _ _ 22 rfl w.heap.size 5 i0 Try.underlying22 hi hz0 hz1 hz2 v2 _ _ rfl w w2 _ hb2 rfl (by simp [Value.oneCell']) (by simp only [Array.size, List.length_cons, List.length_nil]; omega) ?_; intro v3 w3 hb3))
      go_ret
      refine ⟨v3, rfl, ?_⟩
      have hq' := hq.out
      rw [← zs_length s, List.take_length] at hq'
      have e1 : n + 1 + (escL (zs s)).length + 1 = n + 1 + acc.length + (s.extract j s.size).size + 1 := by
        rw [← hq', List.length_append, ← zs_extract_end, zs_length]; omega
      rw [e1, ← hq', ← zs_extract_end]
      rw [strCells_eq] at hb3
      simp only [List.map_append, List.append_assoc, List.map_cons, List.map_nil] at hb3 ⊢
      exact hb3
end Go.Proofs.Qxb6627711a
