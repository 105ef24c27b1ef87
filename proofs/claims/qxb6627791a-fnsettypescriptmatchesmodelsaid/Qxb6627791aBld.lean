/-
  The builder: what it is in memory; making one; one object more.
-/
import Derived.Test.Qxb6627791aPush
import Derived.Test.Qxb6627791aPlain
namespace Go.Proofs.Qxb6627791a
open Go.RowKit
open Go.Maps
set_option linter.unusedVariables false

theorem bytes_eq {A B : ByteArray} (h : A.data.toList = B.data.toList) : A = B := by
  cases A; cases B
  congr
  exact Array.ext' h

/-- The key that a string reads xa. -/
def keyS (s : ByteArray) : Lit := .string s.data.toList
theorem keyS_lit (s : ByteArray) : WideAt.IsKeyLit (keyS s) := trivial
theorem keyS_inj {a b : ByteArray} (h : keyS a = keyS b) : a = b := by
  unfold keyS at h
  injection h with h
  exact bytes_eq h

def cellsT (ts : List Nat) : List Value := ts.map fun (t : Nat) => Value.int .i32 (t : Int)
def cellsS (tb : List ByteArray) : List Value := tb.map fun s => Value.string s

/-- The map is the inverse of the table. -/
structure MapOk (D : DataW Unit) (tb : List ByteArray) : Prop where
  size : Maps.size D = tb.length
  tidy : Maps.Tidy D
  nodup : tb.Nodup
  has : ∀ s, Maps.has D (keyS s) = true ↔ s ∈ tb
  at_ : ∀ (i : Nat) s, tb[i]? = some s → D.atKey (keyS s) (.lit (.int .i32 0)) = .lit (.int .i32 (i : Int))

theorem Tidy.isMap {D : DataW Unit} (h : Maps.Tidy D) : Maps.IsMap D := by obtain ⟨es, e, _⟩ := h; exact ⟨es, e⟩

theorem MapOk.put {D : DataW Unit} {tb : List ByteArray} (h : MapOk D tb) (s : ByteArray) (hs : ¬ s ∈ tb) : MapOk (D.put (keyS s) (.lit (.int .i32 (tb.length : Int)))) (tb ++ [s]) := by
  have hm := Tidy.isMap h.tidy
  have hf : Maps.has D (keyS s) = false := by
    cases e : Maps.has D (keyS s) with
    | false => rfl
    | true => exact absurd ((h.has s).1 e) hs
  refine ⟨?_, h.tidy.put (keyS_lit s) _, ?_, fun s' => ?_, fun i s' hi => ?_⟩
  · rw [Maps.size_put h.tidy, hf, List.length_append, List.length_singleton, h.size]; rfl
  · rw [List.nodup_append]
    refine ⟨h.nodup, by simp, fun a ha b hb => ?_⟩
    simp at hb
    subst hb
    intro e
    subst e
    exact hs ha
  · by_cases e : s' = s
    · subst e
      rw [Maps.has_put_same hm (keyS_lit _)]
      simp
    · rw [Maps.has_put_other (fun h => e (keyS_inj h)), h.has s', List.mem_append]
      simp [e]
  · rw [List.getElem?_append] at hi
    split at hi
    · have hmem := List.mem_of_getElem? hi
      have e : s' ≠ s := fun e => hs (e ▸ hmem)
      rw [Maps.atKey_put_other (fun h => e (keyS_inj h))]
      exact h.at_ i s' hi
    · have hl := (List.getElem?_eq_some_iff.1 hi).1
      simp at hl
      have : i = tb.length := by omega
      subst this
      simp at hi
      subst hi
      exact Maps.atKey_put_same hm (keyS_lit _) _ _

theorem ownsMap_same {w w' : World} {P : Program} {k : TypeId} {R : Value → Option (DataW Unit × List MemPlace)} {b n : Nat} {D : DataW Unit} (h : w.ownsMap P k R b n D) (e : w'.heap[b]? = w.heap[b]?) : w'.ownsMap P k R b n D := by
  obtain ⟨es, clock, hb, r⟩ := h
  exact ⟨es, clock, e.trans hb, r⟩

/-- The map's value in the builder. -/
def MapAt (w : World) (who : Nat → Nat × Nat) (l : Nat) (M : Value) (tb : List ByteArray) : Prop :=
  (tb = [] ∧ M = .map none) ∨ ∃ bm D, tb ≠ [] ∧ M = .map (some bm) ∧ who bm = (l, 0) ∧ w.ownsMap (H := Unit) Try.prog 9 (plainElem Try.prog 21) bm tb.length D ∧ MapOk D tb

theorem MapAt.turn {w w' : World} {who who' : Nat → Nat × Nat} {l : Nat} {M : Value} {tb : List ByteArray} {C : Nat → Prop} (h : MapAt w who l M tb) (t : Turn C who w w') (s : Same w.heap.size who who') (hc : ¬ C l) : MapAt w' who' l M tb := by
  rcases h with h | ⟨bm, D, h1, h2, h3, h4, h5⟩
  · exact .inl h
  · exact .inr ⟨bm, D, h1, h2, by rw [s bm h4.lt]; exact h3, ownsMap_same h4 (t.block bm h4.lt (by rw [h3]; exact hc)), h5⟩

def hdr (A T N M : Value) : Array Value := #[.bool false, A, .slice none 0 0, T, N, M, .slice none 0 0, .slice none 0 0, .slice none 0 0, .slice none 0 0, .slice none 0 0]

/-- The builder h at block g: n objects, the types ts, the table tb. -/
structure BldAt (B : Nat) (w : World) (who : Nat → Nat × Nat) (h g n : Nat) (ts : List Nat) (tb : List ByteArray) (A T N M : Value) : Prop where
  head : w.heap[g]? = some (.cells (hdr A T N M) 51 (0, 0))
  lab : who g = (h, 0)
  low : B ≤ g
  addrs : ∃ xa : List Value, xa.length = n ∧ Col B w who (h + 1) 47 28 A xa
  types : Col B w who (h + 2) 49 21 T (cellsT ts)
  names : Own B w who (h + 3, 0) 9 N (cellsS tb)
  nilN : tb = [] → N = .slice none 0 0
  map : MapAt w who (h + 4) M tb

def Bld (B : Nat) (w : World) (who : Nat → Nat × Nat) (h g n : Nat) (ts : List Nat) (tb : List ByteArray) : Prop := ∃ A T N M, BldAt B w who h g n ts tb A T N M

/-- The numbers of builder h. -/
def CH (h : Nat) : Nat → Prop := fun x => h ≤ x ∧ x ≤ h + 4

theorem BldAt.glt {B : Nat} {w : World} {who : Nat → Nat × Nat} {h g n : Nat} {ts : List Nat} {tb : List ByteArray} {A T N M : Value} (b : BldAt B w who h g n ts tb A T N M) : g < w.heap.size := (Array.getElem?_eq_some_iff.1 b.head).1

theorem BldAt.turn {B : Nat} {w w' : World} {who who' : Nat → Nat × Nat} {h g n : Nat} {ts : List Nat} {tb : List ByteArray} {A T N M : Value} {C : Nat → Prop} (b : BldAt B w who h g n ts tb A T N M) (t : Turn C who w w') (s : Same w.heap.size who who') (hc : ∀ x, CH h x → ¬ C x) : BldAt B w' who' h g n ts tb A T N M := by
  obtain ⟨xa, e, ha⟩ := b.addrs
  have c0 := hc h ⟨Nat.le_refl _, by omega⟩
  have c1 := hc (h + 1) ⟨by omega, by omega⟩
  have c2 := hc (h + 2) ⟨by omega, by omega⟩
  have c3 := hc (h + 3) ⟨by omega, by omega⟩
  have c4 := hc (h + 4) ⟨by omega, by omega⟩
  exact ⟨by rw [t.block g b.glt (by rw [b.lab]; exact c0)]; exact b.head, by rw [s g b.glt]; exact b.lab, b.low, ⟨xa, e, ha.turn t s c1⟩, b.types.turn t s c2, b.names.turn t s c3, b.nilN, b.map.turn t s c4⟩

theorem Bld.turn {B : Nat} {w w' : World} {who who' : Nat → Nat × Nat} {h g n : Nat} {ts : List Nat} {tb : List ByteArray} {C : Nat → Prop} (b : Bld B w who h g n ts tb) (t : Turn C who w w') (s : Same w.heap.size who who') (hc : ∀ x, CH h x → ¬ C x) : Bld B w' who' h g n ts tb := by
  obtain ⟨A, T, N, M, b⟩ := b
  exact ⟨A, T, N, M, b.turn t s hc⟩

/-- A new builder. -/
theorem new_any (B h : Nat) (who : Nat → Nat × Nat) (w : World) (hB : B ≤ w.heap.size) :
    Calls Try.prog 6 #[] w fun e w' => ∃ g who', e = .returned (.pointer (some ⟨g, 0, none⟩)) ∧ Same w.heap.size who who' ∧ Turn (CH h) who w w' ∧ Bld B w' who' h g 0 [] [] ∧ g < w'.heap.size := by
  have HF : Hid (Same w.heap.size who (mark who w.heap.size (h, 0)) ∧ Turn (CH h) who w (w.alloc (.cells (hdr (.slice none 0 0) (.slice none 0 0) (.slice none 0 0) (.map none)) 51)) ∧ Bld B (w.alloc (.cells (hdr (.slice none 0 0) (.slice none 0 0) (.slice none 0 0) (.map none)) 51)) (mark who w.heap.size (h, 0)) h w.heap.size 0 [] []) := by
    refine ⟨mark_same _ _ _ _ (Nat.le_refl _), Turn.grown (World.grownBy_alloc w _ none) (fun k hk => by cases hk), _, _, _, _, heap_alloc_new w _, mark_at _ _ _, hB, ⟨[], rfl, Col.nil _ _ _ _ _ _⟩, Col.nil _ _ _ _ _ _, Own.nil _ _ _ _ _, fun _ => rfl, .inl ⟨rfl, rfl⟩⟩
  go_enter Try.func6, Try.ntmps6
  go_wp2
  go_ret
  refine ⟨w.heap.size, mark who w.heap.size (h, 0), rfl, HF.out.1, HF.out.2.1, HF.out.2.2, ?_⟩
  simp

/-- One object more. -/
theorem push_any {B h g n : Nat} {who : Nat → Nat × Nat} {ts : List Nat} {tb : List ByteArray} (w : World) (hb : Bld B w who h g n ts tb) (hn : n ≤ 2000000) (hB : B ≤ w.heap.size) (k : Int) :
    Calls Try.prog 7 #[.pointer (some ⟨g, 0, none⟩), .int .u64 k] w fun e w' => e = .returned (.tuple #[]) ∧ ∃ who', Same w.heap.size who who' ∧ Turn (CH h) who w w' ∧ Bld B w' who' h g (n + 1) ts tb := by
  obtain ⟨A, T, N, M, b⟩ := hb
  obtain ⟨xa, e, ha⟩ := b.addrs
  have HC := push64 ha (by omega) b.head (off := 1) (v := A) rfl b.lab (by omega) hB k
  have HB : Hid _ := b
  clear ha b
  go_enter Try.func7, Try.ntmps7
  go_wp2_with fail
  refine HC.mono ?_
  rintro e2 w' ⟨rfl, who', v', s, t, hh, hcol⟩
  have HF : Hid (∃ who', Same w.heap.size who who' ∧ Turn (CH h) who w w' ∧ Bld B w' who' h g (n + 1) ts tb) := by
    have b := HB.out
    have hne : ∀ x, x = h + 2 ∨ x = h + 3 ∨ x = h + 4 → ¬ (x = h + 1 ∨ x = h) := by omega
    refine ⟨who', s, t.mono (fun x hx => ⟨by omega, by omega⟩), v', T, N, M, hh, by rw [s g b.glt]; exact b.lab, b.low, ⟨_, ?_, hcol⟩, b.types.turn t s (hne _ (by omega)), b.names.turn t s (hne _ (by omega)), b.nilN, b.map.turn t s (hne _ (by omega))⟩
    rw [List.length_append, List.length_singleton, e]
  clear hh hcol s t HB HC
  go_wp2
  go_end0
  exact ⟨rfl, HF.out⟩

end Go.Proofs.Qxb6627791a
