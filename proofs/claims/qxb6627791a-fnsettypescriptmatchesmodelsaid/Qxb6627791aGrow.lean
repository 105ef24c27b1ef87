/-
  column.append: what it does to the memory, outside the walk.
-/
import Derived.Test.Qxb6627791aRead
namespace Go.Proofs.Qxb6627791a
open Go.RowKit
set_option linter.unusedVariables false

/-- One label more. -/
def mark (who : Nat → Nat × Nat) (n : Nat) (l : Nat × Nat) : Nat → Nat × Nat := fun k => if k = n then l else who k
theorem mark_same (who : Nat → Nat × Nat) (n m : Nat) (l : Nat × Nat) (h : m ≤ n) : Same m who (mark who n l) := fun k hk => by rw [mark, if_neg (by omega)]
theorem mark_at (who : Nat → Nat × Nat) (n : Nat) (l : Nat × Nat) : mark who n l n = l := by rw [mark, if_pos rfl]

/-- A column whose last block has room for one value more. -/
def Ready (B : Nat) (w : World) (who : Nat → Nat × Nat) (c : Nat) (tS e : TypeId) (v : Value) (xs : List Value) : Prop :=
  ∃ (us : List Value) (last : Nat), us.length = last + 1 ∧ 65536 * last ≤ xs.length ∧ xs.length < 65536 * (last + 1) ∧ Own B w who (c, 0) tS v us ∧ ∀ i u, us[i]? = some u → Own B w who (c, i + 1) e u (chunk i xs)

theorem Col.ready {B : Nat} {w : World} {who : Nat → Nat × Nat} {c : Nat} {tS e : TypeId} {v : Value} {xs : List Value} (h : Col B w who c tS e v xs) (hm : xs.length % 65536 ≠ 0) : Ready B w who c tS e v xs := by
  obtain ⟨us, h1, h2, h3⟩ := h
  exact ⟨us, xs.length / 65536, by omega, by omega, by omega, h1, h3⟩

/-- The cell of a header. -/
theorem head_cell {w : World} {g off : Nat} {cs : Array Value} {ty : TypeId} {v : Value} (h : w.heap[g]? = some (.cells cs ty (0, 0))) (hv : cs[off]? = some v) : w.cell? ⟨g, off, none⟩ = some v ∧ w.frozen? ⟨g, off, none⟩ = false :=
  ⟨by rw [cell_of_row w g off cs ty (0, 0) h]; exact hv, frozen_of_row w g off cs ty h⟩

theorem Ready.push {B : Nat} {w : World} {who : Nat → Nat × Nat} {c hd : Nat} {tS e : TypeId} {v : Value} {xs : List Value} (h : Ready B w who c tS e v xs) (hn : xs.length ≤ 2000000)
    {g off : Nat} {cs : Array Value} {ty : TypeId} (hg : w.heap[g]? = some (.cells cs ty (0, 0))) (hv : cs[off]? = some v) (hw : who g = (hd, 0)) (hne : hd ≠ c) (X : Value) :
    ∃ go last co u n, v = .slice (some ⟨go, 0, none⟩) (last + 1) co ∧ last ≤ 100 ∧ last * 65536 + n = xs.length ∧ n < 65536 ∧ w.cell? ⟨g, off, none⟩ = some v ∧ w.cell? ⟨go, last, none⟩ = some u ∧ (∃ a cap, u = .slice a n cap) ∧ w.ownsRow B e 1 u n (chunk last xs) ∧
      ∀ ob v2 w2, w2.ownsRow B e 1 v2 (n + 1) (chunk last xs ++ [X]) → (w.drew.alloc ob).grownBy w2 u.ownBlock → (v2.ownBlock = u.ownBlock ∨ v2.ownBlock = some (w.drew.alloc ob).heap.size) →
        w2.cell? ⟨g, off, none⟩ = some v ∧ w2.cell? ⟨go, last, none⟩ = some u ∧ w2.frozen? ⟨go, last, none⟩ = false ∧
        Hid (∃ who', Same w.heap.size who who' ∧ Turn (fun x => x = c) who w (w2.setCell ⟨go, last, none⟩ v2) ∧ Col B (w2.setCell ⟨go, last, none⟩ v2) who' c tS e v (xs ++ [X])) := by
  obtain ⟨us, last, h1, h2, h3, h4, h5⟩ := h
  obtain ⟨go, co, rfl, hco, hBgo, hgo, hwgo⟩ := h4.found (by omega)
  have e2 : us[last]? = some us[last] := List.getElem?_eq_getElem (by omega)
  have h6 := h5 last _ e2
  have e3 : (chunk last xs).length = xs.length - 65536 * last := by rw [chunk_len]; omega
  obtain ⟨ua, uc, eu, _⟩ := h6.len0
  have hgl : g < w.heap.size := (Array.getElem?_eq_some_iff.1 hg).1
  refine ⟨go, last, co, us[last], (chunk last xs).length, by rw [h1], by omega, by omega, by omega, (head_cell hg hv).1, by rw [h4.cell rfl last (by omega), e2], ⟨ua, uc, eu⟩, h6.1, fun ob v2 w2 k1 k2 k3 => ?_⟩
  have hga : w.grownBy (w.drew.alloc ob) us[last].ownBlock := ⟨rfl, rfl, rfl, by simp, fun k hk _ => Below.heap_alloc w.drew ob k hk⟩
  have hg2 : w.grownBy w2 us[last].ownBlock := hga.trans k2
  have hsz : (w.drew.alloc ob).heap.size = w.heap.size + 1 := by simp
  have hsm := mark_same who (w.heap.size + 1) w.heap.size (c, last + 1) (by omega)
  have hrow : ∀ (l : Nat × Nat), l ≠ (c, last + 1) → ∀ k, us[last].ownBlock = some k → who k ≠ l := fun l hl k hk e => hl (e.symm.trans (h6.2 k hk))
  have o1 : Own B w2 (mark who (w.heap.size + 1) (c, last + 1)) (c, 0) tS (.slice (some ⟨go, 0, none⟩) us.length co) us := h4.kept hg2 hsm (hrow _ (by intro e; cases e))
  have o2 : ∀ i u, us[i]? = some u → i ≠ last → Own B w2 (mark who (w.heap.size + 1) (c, last + 1)) (c, i + 1) e u (chunk i xs) := fun i u hu hi => (h5 i u hu).kept hg2 hsm (hrow _ (by intro e; injection e; omega))
  have o3 : Own B w2 (mark who (w.heap.size + 1) (c, last + 1)) (c, last + 1) e v2 (chunk last xs ++ [X]) := by
    refine ⟨by rw [List.length_append, List.length_singleton]; exact k1, fun gg hgg => ?_⟩
    rcases k3 with k3 | k3
    · rw [k3] at hgg
      rw [hsm gg (h6.1.lt gg hgg).2]
      exact h6.2 gg hgg
    · rw [k3, hsz] at hgg
      cases hgg
      exact mark_at _ _ _
  have hgw : w2.heap[g]? = some (.cells cs ty (0, 0)) := by
    rw [hg2.block g hgl (fun e => ?_)]
    · exact hg
    · have := h6.2 g e.symm
      rw [hw] at this
      injection this
      exact hne (by assumption)
  obtain ⟨s1, s2⟩ := o1.1.stored last v2
  have hk : ∀ (l : Nat × Nat), l ≠ (c, 0) → ∀ k, some go = some k → (mark who (w.heap.size + 1) (c, last + 1)) k ≠ l := fun l hl k hk e => by
    cases hk
    rw [o1.2 go rfl] at e
    exact hl e.symm
  refine ⟨(head_cell hgw hv).1, by rw [o1.cell rfl last (by omega), e2], o1.frozen rfl last, mark who (w.heap.size + 1) (c, last + 1), hsm, ?_, us.set last v2, ⟨by rw [List.length_set]; exact s1, fun gg hgg => o1.2 gg hgg⟩, by rw [List.length_set, List.length_append, List.length_singleton]; omega, fun i u hu => ?_⟩
  · refine (Turn.grown hg2 (fun k hk => by rw [h6.2 k hk])).trans (Turn.grown s2 (fun k hk => ?_)) hsm
    cases hk
    rw [o1.2 go rfl]
  · rw [List.getElem?_set] at hu
    by_cases hi : last = i
    · subst hi
      rw [if_pos rfl, if_pos (by omega)] at hu
      cases hu
      rw [chunk_last last xs X (by omega) (by omega)]
      exact o3.kept s2 (Same.refl _ _) (hk _ (by intro e; cases e))
    · rw [if_neg hi] at hu
      have hil := (List.getElem?_eq_some_iff.1 hu).1
      rw [chunk_old i xs X (by omega)]
      exact (o2 i u hu (by omega)).kept s2 (Same.refl _ _) (hk _ (by intro e; cases e))

/-- A full column (or none) gets an empty block more. -/
theorem Col.more {B : Nat} {w : World} {who : Nat → Nat × Nat} {c hd : Nat} {tS e : TypeId} {v : Value} {xs : List Value} (h : Col B w who c tS e v xs) (hn : xs.length ≤ 2000000) (hm : xs.length % 65536 = 0)
    {g off : Nat} {cs : Array Value} {ty : TypeId} (hg : w.heap[g]? = some (.cells cs ty (0, 0))) (hv : cs[off]? = some v) (hw : who g = (hd, 0)) (hne : hd ≠ c) (hB : B ≤ w.heap.size) :
    ∃ m ao co us, v = .slice ao m co ∧ m ≤ 100 ∧ m * 65536 = xs.length ∧ w.cell? ⟨g, off, none⟩ = some v ∧ w.ownsRow B tS 1 v m us ∧
      (0 < m → ∃ go gi ci, ao = some ⟨go, 0, none⟩ ∧ w.cell? ⟨go, m - 1, none⟩ = some (.slice (some ⟨gi, 0, none⟩) 65536 ci)) ∧
      ∀ (MK : Array Value) (cap : Nat) (v3 : Value) (w3 : World), MK.size = cap → cap ≤ 65536 →
        w3.ownsRow B tS 1 v3 (m + 1) (us ++ [.slice (some ⟨w.heap.size, 0, none⟩) 0 cap]) →
        ((w.drew.alloc (.cells MK e)).alloc (.cells #[.slice (some ⟨w.heap.size, 0, none⟩) 0 cap] tS)).grownBy w3 v.ownBlock →
        (v3.ownBlock = v.ownBlock ∨ v3.ownBlock = some (w.heap.size + 2)) →
        w3.cell? ⟨g, off, none⟩ = some v ∧ w3.frozen? ⟨g, off, none⟩ = false ∧
        Hid (∃ who', Same w.heap.size who who' ∧ Turn (fun x => x = c ∨ x = hd) who w (w3.setCell ⟨g, off, none⟩ v3) ∧ (w3.setCell ⟨g, off, none⟩ v3).heap[g]? = some (.cells (cs.setIfInBounds off v3) ty (0, 0)) ∧ Ready B (w3.setCell ⟨g, off, none⟩ v3) who' c tS e v3 xs) := by
  obtain ⟨us, h1, h2, h3⟩ := h
  obtain ⟨ao, co, rfl, _⟩ := h1.len0
  have hul : us.length * 65536 = xs.length := by omega
  have hgl : g < w.heap.size := (Array.getElem?_eq_some_iff.1 hg).1
  refine ⟨us.length, ao, co, us, rfl, by omega, hul, (head_cell hg hv).1, h1.1, fun hp => ?_, fun MK cap v3 w3 hMK hcap k1 k2 k3 => ?_⟩
  · obtain ⟨go, co', e1, _⟩ := h1.found hp
    have e1' := e1
    injection e1 with ea eb ec
    have e2 : us[us.length - 1]? = some us[us.length - 1] := List.getElem?_eq_getElem (by omega)
    have h6 := h3 _ _ e2
    have e3 : (chunk (us.length - 1) xs).length = 65536 := by rw [chunk_len]; omega
    obtain ⟨gi, ci, e4, _⟩ := h6.found (by omega)
    refine ⟨go, gi, ci, ea, ?_⟩
    rw [e1'] at h1
    rw [h1.cell rfl _ (by omega), e2, e4, e3]
  · obtain ⟨v, hvv⟩ : ∃ v, v = Value.slice ao us.length co := ⟨_, rfl⟩
    rw [← hvv] at k2 k3 h1 hv ⊢
    clear hvv
    have hga : w.grownBy ((w.drew.alloc (.cells MK e)).alloc (.cells #[.slice (some ⟨w.heap.size, 0, none⟩) 0 cap] tS)) v.ownBlock :=
      ⟨rfl, rfl, rfl, by simp; omega, fun k hk _ => by rw [Below.heap_alloc _ _ k (by simp; omega)]; exact Below.heap_alloc w.drew _ k hk⟩
    have hg2 : w.grownBy w3 v.ownBlock := hga.trans k2
    have hs1 := mark_same who w.heap.size w.heap.size (c, us.length + 1) (by omega)
    have hs2 := mark_same (mark who w.heap.size (c, us.length + 1)) (w.heap.size + 2) (w.heap.size + 2) (c, 0) (by omega)
    obtain ⟨who', hwho⟩ : ∃ who', who' = mark (mark who w.heap.size (c, us.length + 1)) (w.heap.size + 2) (c, 0) := ⟨_, rfl⟩
    have hsm : Same w.heap.size who who' := by rw [hwho]; exact hs1.trans hs2 (by omega)
    have hrow : ∀ (l : Nat × Nat), l ≠ (c, 0) → ∀ k, v.ownBlock = some k → who k ≠ l := fun l hl k hk e => hl (e.symm.trans (h1.2 k hk))
    have hnew : who' w.heap.size = (c, us.length + 1) := by rw [hwho, hs2 _ (by omega)]; exact mark_at _ _ _
    have hgw : w3.heap[g]? = some (.cells cs ty (0, 0)) := by
      rw [hg2.block g hgl (fun e => ?_)]
      · exact hg
      · have := h1.2 g e.symm
        rw [hw] at this
        injection this
        exact hne (by assumption)
    have hwg' : who' g = (hd, 0) := by rw [hsm g hgl]; exact hw
    have hblk : w3.heap[w.heap.size]? = some (.cells MK e (0, 0)) := by
      have e1 : some w.heap.size ≠ v.ownBlock := fun e => by have := (h1.1.lt _ e.symm).2; omega
      rw [k2.block w.heap.size (by simp; omega) e1, Below.heap_alloc _ _ _ (by simp)]
      exact heap_alloc_new w.drew _
    have o1 : Own B w3 who' (c, 0) tS v3 (us ++ [.slice (some ⟨w.heap.size, 0, none⟩) 0 cap]) := by
      refine ⟨by rw [List.length_append, List.length_singleton]; exact k1, fun gg hgg => ?_⟩
      rcases k3 with k3 | k3
      · rw [k3] at hgg
        rw [hsm gg (h1.1.lt gg hgg).2]
        exact h1.2 gg hgg
      · rw [k3] at hgg
        cases hgg
        rw [hwho]
        exact mark_at _ _ _
    have o2 : ∀ i u, us[i]? = some u → Own B w3 who' (c, i + 1) e u (chunk i xs) := fun i u hu => (h3 i u hu).kept hg2 hsm (hrow _ (by intro e; cases e))
    have o3 : Own B w3 who' (c, us.length + 1) e (.slice (some ⟨w.heap.size, 0, none⟩) 0 cap) (chunk us.length xs) := by
      have e0 : chunk us.length xs = [] := List.eq_nil_of_length_eq_zero (by rw [chunk_len]; omega)
      rw [e0]
      refine ⟨⟨rfl, .inr ⟨w.heap.size, cap, MK, rfl, hB, hblk, Nat.zero_le _, by unfold maxLen; omega, by omega, by simp⟩⟩, fun gg hgg => ?_⟩
      simp [Value.ownBlock] at hgg
      rw [← hgg]; exact hnew
    have s2 : w3.grownBy (w3.setCell ⟨g, off, none⟩ v3) (some g) := ⟨rfl, rfl, rfl, by simp, fun k _ hk => heap_setCell_other w3 ⟨g, off, none⟩ k v3 (fun e => hk (by simp [e]))⟩
    have hk : ∀ (l : Nat × Nat), l ≠ (hd, 0) → ∀ k, some g = some k → who' k ≠ l := fun l hl k hk e => by
      cases hk
      rw [hwg'] at e
      exact hl e.symm
    refine ⟨(head_cell hgw hv).1, (head_cell hgw hv).2, who', hsm, ?_, heap_setCell_same w3 g off cs ty v3 hgw, us ++ [.slice (some ⟨w.heap.size, 0, none⟩) 0 cap], us.length, by rw [List.length_append, List.length_singleton], by omega, by omega, o1.kept s2 (Same.refl _ _) (hk _ (by intro e; injection e; exact hne (Eq.symm (by assumption)))), fun i u hu => ?_⟩
    · refine (Turn.grown hg2 (fun k hk => by rw [h1.2 k hk]; exact Or.inl rfl)).trans (Turn.grown s2 (fun k hk => ?_)) hsm
      cases hk
      rw [hwg']
      exact Or.inr rfl
    · rw [List.getElem?_append] at hu
      split at hu
      · exact (o2 i u hu).kept s2 (Same.refl _ _) (hk _ (by intro e; injection e; exact hne (Eq.symm (by assumption))))
      · have : i = us.length := by
          have := (List.getElem?_eq_some_iff.1 hu).1
          simp at this
          omega
        subst this
        simp at hu
        subst hu
        exact o3.kept s2 (Same.refl _ _) (hk _ (by intro e; injection e; exact hne (Eq.symm (by assumption))))

end Go.Proofs.Qxb6627791a
