/-
  THE PLAIN PART: what jcs.AppendString writes, as lists of numbers. No Go in sight.
-/
import Derived.Lib.AppendStr
namespace Go.Proofs.Qxb6627711a
namespace Pl

/-- One lower-case hex digit. -/
def hexd (n : Int) : Int := if n < 10 then 48 + n else 87 + n

/-- The canonical JSON text of one byte. -/
def esc (c : Int) : List Int :=
  if c = 34 then [92, 34] else if c = 92 then [92, 92] else if c = 8 then [92, 98] else if c = 9 then [92, 116] else if c = 10 then [92, 110]
  else if c = 12 then [92, 102] else if c = 13 then [92, 114] else if c < 32 then [92, 117, 48, 48, hexd (c / 16), hexd (c % 16)] else [c]

/-- A string's bytes as numbers. -/
def zs (s : ByteArray) : List Int := s.data.toList.map fun b => (b.toNat : Int)

def escL (l : List Int) : List Int := l.flatMap esc

theorem zs_length (s : ByteArray) : (zs s).length = s.size := by
  rw [zs, List.length_map, Array.length_toList]; rfl

theorem zs_bd (s : ByteArray) : ∀ z ∈ zs s, 0 ≤ z ∧ z ≤ 255 := by
  intro z hz
  simp only [zs, List.mem_map] at hz
  obtain ⟨b, _, rfl⟩ := hz
  have := UInt8.toNat_lt b
  omega

theorem zs_at (s : ByteArray) (k : Nat) (h : k < s.size) : (zs s)[k]? = some ((s[k].toNat : Nat) : Int) := by
  have h' : k < s.data.size := h
  rw [zs, List.getElem?_map, Array.getElem?_toList, Array.getElem?_eq_getElem h']
  rfl

theorem zs_getD (s : ByteArray) (k : Nat) (h : k < s.size) : (zs s).getD k 0 = ((s[k].toNat : Nat) : Int) := by
  rw [List.getD_eq_getElem?_getD, zs_at s k h]; rfl

theorem zs_take_succ (s : ByteArray) (k : Nat) (h : k < s.size) : (zs s).take (k + 1) = (zs s).take k ++ [((s[k].toNat : Nat) : Int)] := by
  rw [List.take_add_one, zs_at s k h]; rfl

theorem strCells_eq (s : ByteArray) : Lib.strCells s = (zs s).map (Value.int .u8) := by
  simp [Lib.strCells, zs]

theorem zs_extract (s : ByteArray) (j k : Nat) : zs (s.extract j k) = ((zs s).take k).drop j := by
  simp only [zs, ByteArray.data_extract, Array.toList_extract, List.extract_eq_take_drop, List.map_take, List.map_drop]
  rw [List.drop_take]

theorem zs_extract_end (s : ByteArray) (j : Nat) : zs (s.extract j s.size) = (zs s).drop j := by
  rw [zs_extract, ← zs_length s, List.take_length]

theorem zs_append (a b : ByteArray) : zs (a ++ b) = zs a ++ zs b := by
  simp [zs, ByteArray.data_append]

theorem escL_append (a b : List Int) : escL (a ++ b) = escL a ++ escL b := by simp [escL]
theorem escL_one (c : Int) : escL [c] = esc c := by simp [escL]
theorem escL_nil : escL [] = [] := rfl
theorem escL_cons (c : Int) (l : List Int) : escL (c :: l) = esc c ++ escL l := by simp [escL]

theorem esc_len (c : Int) : 1 ≤ (esc c).length ∧ (esc c).length ≤ 6 := by
  unfold esc
  repeat' split
  all_goals simp

theorem escL_len (l : List Int) : l.length ≤ (escL l).length ∧ (escL l).length ≤ 6 * l.length := by
  induction l with
  | nil => simp [escL]
  | cons c l ih =>
    have := esc_len c
    rw [escL_cons, List.length_append, List.length_cons]
    omega

theorem esc_bd (c : Int) (h0 : 0 ≤ c) (h1 : c ≤ 255) : ∀ z ∈ esc c, 0 ≤ z ∧ z ≤ 255 := by
  unfold esc hexd
  intro z hz
  repeat' split at hz
  all_goals simp at hz
  all_goals omega

theorem esc_plain (c : Int) (h : 32 ≤ c) (h1 : c ≠ 34) (h2 : c ≠ 92) : esc c = [c] := by
  unfold esc
  rw [if_neg h1, if_neg h2, if_neg (by omega), if_neg (by omega), if_neg (by omega), if_neg (by omega), if_neg (by omega), if_neg (by omega)]

theorem esc_hex (c : Int) (h : c < 32) (h1 : c ≠ 8) (h2 : c ≠ 9) (h3 : c ≠ 10) (h4 : c ≠ 12) (h5 : c ≠ 13) : esc c = [92, 117, 48, 48, hexd (c / 16), hexd (c % 16)] := by
  unfold esc
  rw [if_neg (by omega), if_neg (by omega), if_neg h1, if_neg h2, if_neg h3, if_neg h4, if_neg h5, if_pos h]

/-- One round of AppendString's loop over a byte that stands as it is. -/
theorem step_plain {s : ByteArray} {j k : Nat} {acc : List Int} (hk : k < s.size) (hj : j ≤ k) (h : acc ++ ((zs s).take k).drop j = escL ((zs s).take k)) (hp : esc ((s[k].toNat : Nat) : Int) = [((s[k].toNat : Nat) : Int)]) :
    acc ++ ((zs s).take (k + 1)).drop j = escL ((zs s).take (k + 1)) := by
  have hl : ((zs s).take k).length = k := by rw [List.length_take, zs_length]; omega
  rw [zs_take_succ s k hk, escL_append, escL_one, hp, ← h, List.drop_append_of_le_length (by omega), List.append_assoc]

/-- One round over a byte that is escaped. -/
theorem step_esc {s : ByteArray} {j k : Nat} {acc : List Int} (hk : k < s.size) (h : acc ++ ((zs s).take k).drop j = escL ((zs s).take k)) :
    acc ++ ((zs s).take k).drop j ++ esc ((s[k].toNat : Nat) : Int) ++ ((zs s).take (k + 1)).drop (k + 1) = escL ((zs s).take (k + 1)) := by
  have e : ((zs s).take (k + 1)).drop (k + 1) = [] := List.drop_eq_nil_of_le (by rw [List.length_take]; omega)
  rw [e, List.append_nil, h, zs_take_succ s k hk, escL_append, escL_one]

end Pl
end Go.Proofs.Qxb6627711a
