/-
  SetType: what its steps do to the builder, outside the walk.
-/
import Derived.Test.Qxb6627791aPad
namespace Go.Proofs.Qxb6627791a
open Go.RowKit
open Go.Maps
set_option linter.unusedVariables false

theorem cellsS_snoc (tb : List ByteArray) (s : ByteArray) : cellsS tb ++ [Value.string s] = cellsS (tb ++ [s]) := by simp [cellsS]

theorem setCell_grown (w : World) (g off : Nat) (v : Value) : w.grownBy (w.setCell ⟨g, off, none⟩ v) (some g) :=
  ⟨rfl, rfl, rfl, by simp, fun k _ hk => heap_setCell_other w ⟨g, off, none⟩ k v (fun e => hk (by simp [e]))⟩

/-- A name more in the table. -/
theorem names_push {B h g n : Nat} {w : World} {who : Nat → Nat × Nat} {ts : List Nat} {tb : List ByteArray} {A T N : Value} {bm : Nat} {D : DataW Unit} {s : ByteArray} (b : BldAt B w who h g n ts tb A T N (.map (some bm))) (hwb : who bm = (h + 4, 0))
    (hown : w.ownsMap (H := Unit) Try.prog 9 (plainElem Try.prog 21) bm tb.length D) (hok : MapOk D tb) (hmem : ¬ s ∈ tb) (ob : Obj) (v2 : Value) (w2 : World) (k1 : w2.ownsRow B 9 1 v2 (tb.length + 1) (cellsS tb ++ [.string s])) (k2 : (w.alloc ob).grownBy w2 N.ownBlock) (k3 : v2.ownBlock = N.ownBlock ∨ v2.ownBlock = some (w.alloc ob).heap.size) :
    w2.cell? ⟨g, 4, none⟩ = some N ∧ w2.frozen? ⟨g, 4, none⟩ = false ∧ w2.cell? ⟨g, 5, none⟩ = some (.map (some bm)) ∧ Hid ((w2.setCell ⟨g, 4, none⟩ v2).ownsMap (H := Unit) Try.prog 9 (plainElem Try.prog 21) bm tb.length D) ∧
    ∀ w4, w4.ownsMap (H := Unit) Try.prog 9 (plainElem Try.prog 21) bm (tb.length + 1) (D.put (keyS s) (.lit (.int .i32 (tb.length : Int)))) → (w2.setCell ⟨g, 4, none⟩ v2).grownBy w4 (some bm) →
      Hid (∃ who', Same w.heap.size who who' ∧ Turn (CH h) who w w4 ∧ Bld B w4 who' h g n ts (tb ++ [s])) := by
  have hga : w.grownBy (w.alloc ob) N.ownBlock := World.grownBy_alloc w ob _
  have hg2 : w.grownBy w2 N.ownBlock := hga.trans k2
  have hsz : (w.alloc ob).heap.size = w.heap.size + 1 := by simp
  have hrow : ∀ (l : Nat × Nat), l ≠ (h + 3, 0) → ∀ k, N.ownBlock = some k → who k ≠ l := fun l hl k hk e => hl (e.symm.trans (b.names.2 k hk))
  obtain ⟨who', hwho⟩ : ∃ who', who' = mark who (w.heap.size + 1) (h + 3, 0) := ⟨_, rfl⟩
  have hsm : Same w.heap.size who who' := by rw [hwho]; exact mark_same _ _ _ _ (by omega)
  have hgw : w2.heap[g]? = some (.cells (hdr A T N (.map (some bm))) 51 (0, 0)) := by
    rw [hg2.block g b.glt (fun e => ?_)]
    · exact b.head
    · exact hrow (h, 0) (by intro e; injection e; omega) g e.symm b.lab
  have hbm : w2.heap[bm]? = w.heap[bm]? := hg2.block bm hown.lt (fun e => hrow (h + 4, 0) (by intro e; injection e; omega) bm e.symm hwb)
  have hne : bm ≠ g := fun e => by have := b.lab; rw [← e, hwb] at this; injection this; omega
  have o1 : Own B w2 who' (h + 3, 0) 9 v2 (cellsS (tb ++ [s])) := by
    rw [← cellsS_snoc]
    refine ⟨by rw [List.length_append, List.length_singleton, cellsS_len]; exact k1, fun gg hgg => ?_⟩
    rcases k3 with k3 | k3
    · rw [k3] at hgg
      rw [hsm gg (b.names.1.lt gg hgg).2]
      exact b.names.2 gg hgg
    · rw [k3, hsz] at hgg
      cases hgg
      rw [hwho]
      exact mark_at _ _ _
  have s2 := setCell_grown w2 g 4 v2
  refine ⟨(head_cell hgw rfl).1, (head_cell hgw rfl).2, (head_cell hgw rfl).1, ownsMap_same hown (by rw [heap_setCell_other w2 ⟨g, 4, none⟩ bm v2 hne]; exact hbm), fun w4 m1 m2 => ?_⟩
  have t2 : Turn (fun x => x = h + 3) who w w2 := Turn.grown hg2 (fun k hk => by rw [b.names.2 k hk])
  have hwg : who' g = (h, 0) := by rw [hsm g b.glt]; exact b.lab
  have hwb' : who' bm = (h + 4, 0) := by rw [hsm bm hown.lt]; exact hwb
  have hss := Same.refl w2.heap.size who'
  have t3 : Turn (fun x => x = h) who' w2 (w2.setCell ⟨g, 4, none⟩ v2) := Turn.grown s2 (fun k hk => by cases hk; rw [hwg])
  have t4 : Turn (fun x => x = h + 4) who' (w2.setCell ⟨g, 4, none⟩ v2) w4 := Turn.grown m2 (fun k hk => by cases hk; rw [hwb'])
  have hss3 := Same.refl (w2.setCell ⟨g, 4, none⟩ v2).heap.size who'
  obtain ⟨xa, e, ha⟩ := b.addrs
  have hh3 := heap_setCell_same w2 g 4 _ 51 v2 hgw
  refine ⟨who', hsm, ?_, A, T, v2, .map (some bm), ?_, hwg, b.low, ⟨xa, e, ?_⟩, ?_, ?_, fun e => ?_, .inr ⟨bm, _, ?_, rfl, hwb', ?_, hok.put s hmem⟩⟩
  · exact ((t2.mono (fun x hx => by rw [hx]; exact ⟨by omega, by omega⟩)).trans (t3.mono (fun x hx => by rw [hx]; exact ⟨by omega, by omega⟩)) hsm).trans (t4.mono (fun x hx => by rw [hx]; exact ⟨by omega, by omega⟩)) hsm
  · rw [t4.block g (by have := b.glt; have := hg2.size; simp; omega) (by rw [hwg]; show ¬ h = h + 4; omega)]
    exact hh3
  · exact ((ha.turn t2 hsm (by omega)).turn t3 hss (by omega)).turn t4 hss3 (by omega)
  · exact ((b.types.turn t2 hsm (by omega)).turn t3 hss (by omega)).turn t4 hss3 (by omega)
  · exact (o1.turn t3 hss (by show ¬ h + 3 = h; omega)).turn t4 hss3 (by show ¬ h + 3 = h + 4; omega)
  · simp at e
  · simp
  · rw [List.length_append, List.length_singleton]; exact m1

/-- The first table. -/
theorem names_new {B h g n : Nat} {w : World} {who : Nat → Nat × Nat} {ts : List Nat} {A T N M : Value} (b : BldAt B w who h g n ts [] A T N M) (hB : B ≤ w.heap.size) :
    ∀ V W1 W2, V = Value.slice (some ⟨w.heap.size, 0, none⟩) 1 1 → W1 = (w.setCell ⟨g, 4, none⟩ V).alloc (.cells #[.string ByteArray.empty] 9) → W2 = W1.alloc (.map #[] 0) →
    W1.heap.size = w.heap.size + 1 ∧ Hid (W2.ownsMap (H := Unit) Try.prog 9 (plainElem Try.prog 21) (w.heap.size + 1) 0 (.map [])) ∧
    ∀ w4, w4.ownsMap (H := Unit) Try.prog 9 (plainElem Try.prog 21) (w.heap.size + 1) 1 (DataW.put (.map []) (keyS ByteArray.empty) (.lit (.int .i32 0))) → W2.grownBy w4 (some (w.heap.size + 1)) →
      w4.cell? ⟨g, 5, none⟩ = some M ∧ w4.frozen? ⟨g, 5, none⟩ = false ∧ Hid (∃ who', Same w.heap.size who who' ∧ Turn (CH h) who w (w4.setCell ⟨g, 5, none⟩ (.map (some (w.heap.size + 1)))) ∧ Bld B (w4.setCell ⟨g, 5, none⟩ (.map (some (w.heap.size + 1)))) who' h g n ts [ByteArray.empty]) := by
  intro V W1 W2 eV e1 e2
  have hsz1 : W1.heap.size = w.heap.size + 1 := by rw [e1]; simp [World.setCell]
  have hsz2 : W2.heap.size = w.heap.size + 2 := by rw [e2]; simp [hsz1]
  have hmade : W2.ownsMap (H := Unit) Try.prog 9 (plainElem Try.prog 21) (w.heap.size + 1) 0 (.map []) := by rw [e2, ← hsz1]; exact World.ownsMap_made _ _ _ _
  refine ⟨hsz1, hmade, fun w4 m1 m2 => ?_⟩
  have hgl := b.glt
  have hszs : (w.setCell ⟨g, 4, none⟩ V).heap.size = w.heap.size := by simp [World.setCell]
  have hh1 : W1.heap[g]? = some (.cells (hdr A T V M) 51 (0, 0)) := by rw [e1, Below.heap_alloc _ _ _ (by omega)]; exact heap_setCell_same w g 4 _ 51 V b.head
  have hh2 : W2.heap[g]? = some (.cells (hdr A T V M) 51 (0, 0)) := by rw [e2, Below.heap_alloc _ _ _ (by omega)]; exact hh1
  have hh4 : w4.heap[g]? = some (.cells (hdr A T V M) 51 (0, 0)) := by rw [m2.block g (by omega) (by intro e; injection e; omega)]; exact hh2
  have hh5 := heap_setCell_same w4 g 5 _ 51 (Value.map (some (w.heap.size + 1))) hh4
  obtain ⟨who', hwho⟩ : ∃ who', who' = mark (mark who w.heap.size (h + 3, 0)) (w.heap.size + 1) (h + 4, 0) := ⟨_, rfl⟩
  have hs0 := mark_same (mark who w.heap.size (h + 3, 0)) (w.heap.size + 1) (w.heap.size + 1) (h + 4, 0) (by omega)
  have hsm : Same w.heap.size who who' := by rw [hwho]; exact (mark_same _ _ _ _ (Nat.le_refl _)).trans hs0 (by omega)
  have hlN : who' w.heap.size = (h + 3, 0) := by rw [hwho, hs0 _ (by omega)]; exact mark_at _ _ _
  have hlM : who' (w.heap.size + 1) = (h + 4, 0) := by rw [hwho]; exact mark_at _ _ _
  have hlg : who' g = (h, 0) := by rw [hsm g hgl]; exact b.lab
  have hblk : w4.heap[w.heap.size]? = some (.cells #[.string ByteArray.empty] 9 (0, 0)) := by
    rw [m2.block _ (by omega) (by intro e; injection e; omega), e2, Below.heap_alloc _ _ _ (by omega), e1, ← hszs]
    exact heap_alloc_new (w.setCell ⟨g, 4, none⟩ V) _
  have t5 : Turn (fun x => x = h) who w (w4.setCell ⟨g, 5, none⟩ (.map (some (w.heap.size + 1)))) := by
    refine ⟨?_, ?_, ?_, ?_, fun k hk hc => ?_⟩
    · show w4.os = w.os
      rw [m2.os, e2, e1]; rfl
    · show w4.tape = w.tape
      rw [m2.tape, e2, e1]; rfl
    · show w4.output = w.output
      rw [m2.output, e2, e1]; rfl
    · have := m2.size
      simp [World.setCell]; omega
    · have hkg : k ≠ g := fun e => hc (by rw [e, b.lab])
      rw [heap_setCell_other w4 ⟨g, 5, none⟩ k _ hkg, m2.block k (by omega) (by intro e; injection e; omega), e2, Below.heap_alloc _ _ _ (by omega), e1, Below.heap_alloc _ _ _ (by omega), heap_setCell_other _ ⟨g, 4, none⟩ k _ hkg]
  have hrowN : (w4.setCell ⟨g, 5, none⟩ (.map (some (w.heap.size + 1)))).ownsRow B 9 1 V (cellsS [ByteArray.empty]).length (cellsS [ByteArray.empty]) := by
    show (w4.setCell ⟨g, 5, none⟩ (.map (some (w.heap.size + 1)))).ownsRow B 9 1 V 1 [Value.string ByteArray.empty]
    refine ⟨rfl, .inr ⟨w.heap.size, 1, #[.string ByteArray.empty], eV, hB, ?_, Nat.le_refl _, by unfold maxLen; omega, rfl, rfl⟩⟩
    rw [heap_setCell_other w4 ⟨g, 5, none⟩ _ _ (by show w.heap.size ≠ g; omega)]
    exact hblk
  obtain ⟨xa, e, ha⟩ := b.addrs
  refine ⟨(head_cell hh4 rfl).1, (head_cell hh4 rfl).2, who', hsm, t5.mono (fun x hx => by rw [hx]; exact ⟨by omega, by omega⟩), A, T, V, .map (some (w.heap.size + 1)), hh5, hlg, b.low, ⟨xa, e, ha.turn t5 hsm (by omega)⟩, b.types.turn t5 hsm (by omega), ⟨hrowN, fun gg hgg => ?_⟩, fun e => by simp at e, .inr ⟨w.heap.size + 1, DataW.put (.map []) (keyS ByteArray.empty) (.lit (.int .i32 0)), by simp, rfl, hlM, ?_, ?_⟩⟩
  · rw [eV] at hgg
    simp [Value.ownBlock] at hgg
    rw [← hgg]; exact hlN
  · exact ownsMap_same m1 (heap_setCell_other w4 ⟨g, 5, none⟩ _ _ (by show w.heap.size + 1 ≠ g; omega))
  · have h0 : MapOk (.map []) [] := ⟨rfl, ⟨[], rfl, List.Pairwise.nil⟩, List.nodup_nil, fun s => by simp [Maps.has], fun i s hi => by simp at hi⟩
    exact h0.put ByteArray.empty (by simp)

/-- 'map[K]V{..}': an entry of a literal. -/
theorem wpList_insert_own {P : Program} (w : World) {ops : Array Oper} {rest : List Oper} {o : Oper} {a : Act} {Q : Exit → Act → World → Prop} (hg : o.guard = none) (m x v : Operand) (t : TypeId) (hop : o.op = Op.insert t m x v)
    (k e : TypeId) (K : Keyed P k) (ht : P.underlying t = some (.map k e)) (R : Value → Option (DataW Unit × List MemPlace)) (b n : Nat) (D : DataW Unit)
    (hm : a.eval m = .map (some b)) (hown : w.ownsMap P k R b n D) (hn : n < maxLen) (key val : Value) (kl : Lit) (hx : a.eval x = key) (hv : a.eval v = val) (hkey : keyOf P k key = some kl)
    (d : DataW Unit) (ps : List MemPlace) (hval : R val = some (d, ps))
    (hK : ∀ w', w'.ownsMap P k R b (n + 1) (D.put kl d) → w.grownBy w' (some b) → wpList P ops Q rest (a.put o.dst undef) w') :
    wpList P ops Q (o :: rest) a w := by
  refine wpList_plain hg fun K' hK' => ?_
  obtain ⟨w', hrun, r1, r2⟩ := hown.store K ht hn hkey hval
  unfold Oper.wp
  simp [execOp, hop, hm, hx, hv, hrun, Result.andThen]
  exact hK' _ _ (hK w' r1 r2.grown)

end Go.Proofs.Qxb6627791a
