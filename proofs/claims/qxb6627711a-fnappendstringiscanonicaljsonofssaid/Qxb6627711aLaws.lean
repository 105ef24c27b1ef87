/-
  THE LAWS: a slice of bytes that the call owns, appended to again and again, in blocks from B on; nothing below B turns.
-/
import Derived.Lib.AppendStr
import Derived.WalkKit
import Derived.Below
import Derived.Deep.RegionLaw
namespace Go.Proofs.Qxb6627711a
open Go.RowKit

/-- In w the slice v owns n cells xs in a block from B on; below B w is as W0 was. -/
def OwnB (B : Nat) (e : TypeId) (v : Value) (n : Nat) (xs : List Value) (W0 w : World) : Prop :=
  w.ownsRow B e 1 v n xs ∧ Below B W0 w ∧ B ≤ w.heap.size

theorem OwnB.grown {B : Nat} {e : TypeId} {v v' : Value} {n n' : Nat} {xs xs' : List Value} {W0 w w' : World} (h : OwnB B e v n xs W0 w) (ho : w'.ownsRow B e 1 v' n' xs') (hg : w.grownBy w' v.ownBlock) : OwnB B e v' n' xs' W0 w' :=
  ⟨ho, h.2.1.grown hg h.2.2 (fun k hk => (h.1.lt k hk).1), Nat.le_trans h.2.2 hg.size⟩

theorem OwnB.alloc {B : Nat} {e : TypeId} {v : Value} {n : Nat} {xs : List Value} {W0 w : World} (h : OwnB B e v n xs W0 w) (o : Obj) : OwnB B e v n xs W0 (w.alloc o) :=
  ⟨h.1.alloc o, h.2.1.alloc h.2.2 o, Nat.le_trans h.2.2 ((Below.refl 0 w).alloc (Nat.zero_le _) o).size⟩

theorem OwnB.drew {B : Nat} {e : TypeId} {v : Value} {n : Nat} {xs : List Value} {W0 w : World} (h : OwnB B e v n xs W0 w) : OwnB B e v n xs W0 w.drew :=
  ⟨h.1.drew, h.2.1.drew, h.2.2⟩

section
variable {P : Program}

/-- 'out = append(out, c1, .., cm)': the new bytes lie in the block that the statement has just laid. -/
theorem wpList_append_cells {ops : Array Oper} {rest : List Oper} {o : Oper} {a : Act} {Q : Exit → Act → World → Prop} (hgd : o.guard = none) (s x : Operand) (t : TypeId)
    (ho : o.op = .call { callee := .builtin .append, args := #[s, x], argTypes := #[t, t] })
    (B : Nat) (e : TypeId) (i : TypeInfo) (ht : P.underlying t = some (.slice e)) (hi : P.info? e = some i) (hz : i.zero = some (.int .u8 0)) (hsize : i.size = 1) (hby : i.bytes = 1)
    (v : Value) (n : Nat) (xs : List Value) (hs : a.eval s = v) (W0 w0 : World) (cs : Array Value) (hb : OwnB B e v n xs W0 w0)
    (hx : a.eval x = .slice (some ⟨w0.heap.size, 0, none⟩) cs.size cs.size) (h1 : ∀ u ∈ cs.toList, u.oneCell' = true) (hlen : n + cs.size ≤ 140737488355328)
    (h : ∀ v' w', OwnB B e v' (n + cs.size) (xs ++ cs.toList) W0 w' → wpList P ops Q rest (a.put o.dst v') w') : wpList P ops Q (o :: rest) a (w0.alloc (.cells cs e)) := by
  have hb' := hb.alloc (.cells cs e)
  refine wpList_append_own _ hgd s x t ho B e i (.int .u8 0) 1 1 ht hi hz hsize hby rfl (by decide) v n xs hs hb'.1 ⟨w0.heap.size, 0, none⟩ cs.size cs.size cs.toList hx (by simp) ?_ h1 (by unfold maxLen; omega) (by omega) hb'.2.2 ?_
  · intro j u hj
    have hadd : (⟨w0.heap.size, 0, none⟩ : Addr).add j = ⟨w0.heap.size, j, none⟩ := by unfold Addr.add; split <;> simp_all
    rw [hadd, cell_of_row _ w0.heap.size j cs e (0, 0) (heap_alloc_new w0 _)]
    simpa using hj
  · intro v' w' ho' hg _
    exact h v' w' (hb'.grown ho' hg)

/-- The same as a step of a region that draws. -/
theorem step_append_cells {ops : Array Oper} {o : Oper} {a : Act} {K : Act → World → Prop} {Q : Exit → Act → World → Prop} {E : Prop} (hgd : o.guard = none) (s x : Operand) (t : TypeId)
    (ho : o.op = .call { callee := .builtin .append, args := #[s, x], argTypes := #[t, t] })
    (B : Nat) (e : TypeId) (i : TypeInfo) (ht : P.underlying t = some (.slice e)) (hi : P.info? e = some i) (hz : i.zero = some (.int .u8 0)) (hsize : i.size = 1) (hby : i.bytes = 1)
    (v : Value) (n : Nat) (xs : List Value) (hs : a.eval s = v) (W0 w0 : World) (cs : Array Value) (hb : OwnB B e v n xs W0 w0)
    (m : Nat) (hx : a.eval x = .slice (some ⟨w0.heap.size, 0, none⟩) m m) (hm : cs.size = m) (h1 : ∀ u ∈ cs.toList, u.oneCell' = true) (hlen : n + m ≤ 140737488355328)
    (h : ∀ v' w', OwnB B e v' (n + cs.size) (xs ++ cs.toList) W0 w' → K (a.put o.dst v') w') :
    if Region.wanted o (yielded ops a.tmps) = true then Oper.wp P o a (w0.alloc (.cells cs e)) K Q else E := by
  subst hm
  have hw : Region.wanted o (yielded ops a.tmps) = true := by simp [Region.wanted, hgd]
  rw [if_pos hw]
  have hb' := hb.alloc (.cells cs e)
  refine wp_append_own _ s x t ho B e i (.int .u8 0) 1 1 ht hi hz hsize hby rfl (by decide) v n xs hs hb'.1 ⟨w0.heap.size, 0, none⟩ cs.size cs.size cs.toList hx (by simp) ?_ h1 (by unfold maxLen; omega) (by omega) hb'.2.2 ?_
  · intro j u hj
    have hadd : (⟨w0.heap.size, 0, none⟩ : Addr).add j = ⟨w0.heap.size, j, none⟩ := by unfold Addr.add; split <;> simp_all
    rw [hadd, cell_of_row _ w0.heap.size j cs e (0, 0) (heap_alloc_new w0 _)]
    simpa using hj
  · intro v' w' ho' hg _
    exact h v' w' (hb'.grown ho' hg)

/-- 'out = append(out, s...)': a string's bytes. -/
theorem wpList_append_str {ops : Array Oper} {rest : List Oper} {o : Oper} {a : Act} {Q : Exit → Act → World → Prop} {w : World} (hgd : o.guard = none) (sl x : Operand) (t u : TypeId)
    (ho : o.op = .call { callee := .builtin .append, args := #[sl, x], argTypes := #[t, u] })
    (B : Nat) (e : TypeId) (i : TypeInfo) (ht : P.underlying t = some (.slice e)) (hu : P.underlying u = some .string) (hi : P.info? e = some i) (hz : i.zero = some (.int .u8 0)) (hsize : i.size = 1) (hby : i.bytes = 1)
    (v : Value) (n : Nat) (xs : List Value) (hs : a.eval sl = v) (W0 : World) (hb : OwnB B e v n xs W0 w) (s : ByteArray) (hx : a.eval x = .string s) (hlen : n + s.size ≤ 140737488355328)
    (h : ∀ v' w', OwnB B e v' (n + s.size) (xs ++ Lib.strCells s) W0 w' → wpList P ops Q rest (a.put o.dst v') w') : wpList P ops Q (o :: rest) a w := by
  refine Lib.wpList_append_own_string w hgd sl x t u ho B e i ht hu hi hz hsize hby v n xs hs hb.1 s hx (by unfold maxLen; omega) hlen hb.2.2 ?_
  intro v' w' ho' hg _
  exact h v' w' (hb.grown ho' hg)

end
end Go.Proofs.Qxb6627711a
