/-
  column.append: the walk.
-/
import Derived.Test.Qxb6627791aGrow
import Derived.Deep.Cut
namespace Go.Proofs.Qxb6627791a
open Go.RowKit
set_option linter.unusedVariables false

/-- append as one step of a region that draws, and where the new slice lies. -/
theorem step_append_at {P : Program} {ops : Array Oper} {o : Oper} {a : Act} {w : World} {K : Act → World → Prop} {Q : Exit → Act → World → Prop} {E : Prop} (hgd : o.guard = none) (s x : Operand) (t : TypeId)
    (ho : o.op = .call { callee := .builtin .append, args := #[s, x], argTypes := #[t, t] })
    (base : Nat) (e : TypeId) (i : TypeInfo) (z : Value) (bytes : Nat) (ht : P.underlying t = some (.slice e)) (hi : P.info? e = some i) (hz : i.zero = some z) (hsize : i.size = 1) (hby : i.bytes = bytes) (hzs : z.cells.size = 1)
    (v : Value) (n : Nat) (xs : List Value) (hs : a.eval s = v) (hown : w.ownsRow base e 1 v n xs)
    (ad : Addr) (X : Value) (hx : a.eval x = .slice (some ad) 1 1) (hnews : ∀ j u, [X][j]? = some u → w.cell? (ad.add j) = some u) (h1 : X.oneCell' = true)
    (hlen : n ≤ 2000000) (hbytes : bytes ≤ 1000) (hbase : base ≤ w.heap.size)
    (h : ∀ g' c' w', w'.ownsRow base e 1 (.slice (some ⟨g', 0, none⟩) (n + 1) c') (n + 1) (xs ++ [X]) → w.grownBy w' v.ownBlock → ((Value.slice (some ⟨g', 0, none⟩) (n + 1) c').ownBlock = v.ownBlock ∨ (Value.slice (some ⟨g', 0, none⟩) (n + 1) c').ownBlock = some w.heap.size) → K (a.put o.dst (.slice (some ⟨g', 0, none⟩) (n + 1) c')) w') :
    if Region.wanted o (yielded ops a.tmps) = true then Oper.wp P o a w K Q else E := by
  have hw : Region.wanted o (yielded ops a.tmps) = true := by simp [Region.wanted, hgd]
  rw [if_pos hw]
  have hb : (n + 1) * bytes ≤ 140737488355328 := by
    have : (n + 1) * bytes ≤ 2000001 * 1000 := Nat.mul_le_mul (by omega) hbytes
    omega
  obtain ⟨v', w', hr, h2, h3, h4, h5⟩ := run_append_own_at (P := P) w base t o.type e i z 1 bytes ht hi hz hsize hby hzs (by decide) v n xs hown ad 1 1 [X] rfl hnews (by intro u hu; simp at hu; subst hu; exact h1) (by unfold maxLen; omega) hb hbase
  unfold Oper.wp execOp
  simp only [ho, resolve, invoke, builtin, Sem.run_bind, Sem.run_pure, Result.andThen_ok, List.map_toArray, List.map_cons, List.map_nil, hs, hx, hr]
  obtain ⟨g', c', rfl⟩ : ∃ g' c', v' = .slice (some ⟨g', 0, none⟩) (n + 1) c' := by
    rcases h2.2 with ⟨_, h0⟩ | ⟨g', c', _, e1, _⟩
    · omega
    · exact ⟨g', c', e1⟩
  exact h g' c' w' h2 h3 h5

theorem info28 : (Try.prog.info? 28).map (fun i => (i.zero, i.size, i.bytes)) = some (some (.int .u64 0), 1, 8) := by kernel_rfl
theorem info47 : (Try.prog.info? 47).map (fun i => (i.zero, i.size, i.bytes)) = some (some (.slice none 0 0), 1, 24) := by kernel_rfl
theorem info21 : (Try.prog.info? 21).map (fun i => (i.zero, i.size, i.bytes)) = some (some (.int .i32 0), 1, 4) := by kernel_rfl
theorem info49 : (Try.prog.info? 49).map (fun i => (i.zero, i.size, i.bytes)) = some (some (.slice none 0 0), 1, 24) := by kernel_rfl

theorem set_same {cs : Array Value} {off : Nat} {v : Value} (h : cs[off]? = some v) : cs.setIfInBounds off v = cs := by
  apply Array.ext_getElem?
  intro j
  rw [Array.getElem?_setIfInBounds]
  by_cases e : off = j
  · subst e
    obtain ⟨h1, h2⟩ := Array.getElem?_eq_some_iff.1 h
    rw [if_pos rfl, if_pos h1, h]
  · rw [if_neg e]

set_option maxHeartbeats 8000000 in
set_option maxRecDepth 100000 in
theorem push64 {B : Nat} {w : World} {who : Nat → Nat × Nat} {c hd : Nat} {v : Value} {xs : List Value} (h : Col B w who c 47 28 v xs) (hn : xs.length ≤ 2000000)
    {g off : Nat} {cs : Array Value} {ty : TypeId} (hg : w.heap[g]? = some (.cells cs ty (0, 0))) (hv : cs[off]? = some v) (hw : who g = (hd, 0)) (hne : hd ≠ c) (hB : B ≤ w.heap.size) (k : Int) :
    Calls Try.prog 18 #[.pointer (some ⟨g, off, none⟩), .int .u64 k] w fun e w' => e = .returned (.tuple #[]) ∧ ∃ who' v', Same w.heap.size who who' ∧ Turn (fun x => x = c ∨ x = hd) who w w' ∧ w'.heap[g]? = some (.cells (cs.setIfInBounds off v') ty (0, 0)) ∧ Col B w' who' c 47 28 v' (xs ++ [.int .u64 k]) := by
  obtain ⟨i0, hi, hz0, hz1, hz2⟩ := info_parts info28
  obtain ⟨i1, hi1, hy0, hy1, hy2⟩ := info_parts info47
  have hgl : g < w.heap.size := (Array.getElem?_eq_some_iff.1 hg).1
  have hol : off < cs.size := (Array.getElem?_eq_some_iff.1 hv).1
  have HG : Hid (w.heap[g]? = some (.cells cs ty (0, 0))) := hg
  have HV : Hid (cs[off]? = some v) := hv
  have HC : Hid (Col B w who c 47 28 v xs) := h
  have hc0 := (head_cell hg hv).1
  obtain ⟨m, ao, co, rfl, hm0⟩ : ∃ m ao co, v = .slice ao m co ∧ m = (xs.length + 65535) / 65536 := by
    obtain ⟨us, h1, h2, h3⟩ := h
    obtain ⟨ao, co, e, _⟩ := h1.len0
    exact ⟨us.length, ao, co, e, h2⟩
  have hm1 : m ≤ 100 := by omega
  have HM0 : Hid (m = (xs.length + 65535) / 65536) := hm0
  clear h hg hv hm0
  go_enter Try.func18, Try.ntmps18
  go_upto_region 1 with fail
  rename_i K1 hK1 K2 hK2
  have hrest : ∀ (wc : World) (who1 : Nat → Nat × Nat) (v1 : Value) (u2 u3 u5 u6 u7 u8 u9 u10 u11 u12 u13 u14 u15 u16 u17 u18 u19 u20 u21 u22 u23 u24 u25 u26 u27 u28 u29 u30 u31 u32 u33 u34 u35 u36 u37 u38 u39 u40 u41 u42 u43 u44 u45 u46 u47 u48 u49 u50 u51 u52 u53 u54 u55 : Value), Hid (Same w.heap.size who who1 ∧ Turn (fun x => x = c ∨ x = hd) who w wc ∧ wc.heap[g]? = some (.cells (cs.setIfInBounds off v1) ty (0, 0)) ∧ Ready B wc who1 c 47 28 v1 xs) →
      K1 ⟨#[.pointer (some ⟨g, off, none⟩), .int .u64 k, u2, u3, .int .i64 ((xs.length / 65536 : Nat) : Int), u5, u6, u7, u8, u9, u10, u11, u12, u13, u14, u15, u16, u17, u18, u19, u20, u21, u22, u23, u24, u25, u26, u27, u28, u29, u30, u31, u32, u33, u34, u35, u36, u37, u38, u39, u40, u41, u42, u43, u44, u45, u46, u47, u48, u49, u50, u51, u52, u53, u54, u55], []⟩ wc := by
    clear hK2
    intro wc who1 v1 u2 u3 u5 u6 u7 u8 u9 u10 u11 u12 u13 u14 u15 u16 u17 u18 u19 u20 u21 u22 u23 u24 u25 u26 u27 u28 u29 u30 u31 u32 u33 u34 u35 u36 u37 u38 u39 u40 u41 u42 u43 u44 u45 u46 u47 u48 u49 u50 u51 u52 u53 u54 u55 H
    obtain ⟨s1, t1, hg1, r1⟩ := H.out
    have hw1 : who1 g = (hd, 0) := by rw [s1 g hgl]; exact hw
    have hszc := t1.size
    have hvv : (cs.setIfInBounds off v1)[off]? = some v1 := by rw [Array.getElem?_setIfInBounds, if_pos rfl, if_pos hol]
    obtain ⟨go, last, co2, u, n, rfl, hl, hsum, hn1, hc1, hc2, ⟨ua, uc, rfl⟩, hown, HF⟩ := r1.push hn hg1 hvv hw1 hne (.int .u64 k)
    have el : xs.length / 65536 = last := by omega
    rw [el]
    have hlt1 : (last : Int) < (last : Int) + 1 := by omega
    have HO : Hid (wc.ownsRow B 28 1 (.slice ua n uc) n (chunk last xs)) := hown
    have H3 : Hid _ := fun v2 w2 => HF (.cells #[.int .u64 k] 28) v2 w2
    have fA1 := (World.grownBy_alloc wc (.cells #[.int .u64 k] 28) none).cell hc1 (by simp)
    have fA2 := (World.grownBy_alloc wc (.cells #[.int .u64 k] 28) none).cell hc2 (by simp)
    have HS1 : Hid (Same w.heap.size who who1) := s1
    have HT1 : Hid (Turn (fun x => x = c ∨ x = hd) who w wc) := t1
    have HG1 : Hid _ := hg1
    have HW1 : Hid (who1 g = (hd, 0)) := hw1
    refine hK1 _ _ ?_
    clear hK1 r1 HF hown H s1 t1 hg1 hw1 hsum el hvv
    go_region_law (refine step_append_at rfl (.tmp 51) (.tmp 53) 47 rfl B 28 i0 (.int .u64 0) 8 Try.underlying47 hi hz0 hz1 hz2 rfl _ n (chunk last xs) rfl (HO.out.drew.alloc _) ⟨wc.heap.size, 0, none⟩ (.int .u64 k) rfl (cell_one_new wc.drew _ _) rfl (by omega) (by omega) (by simp; omega) ?_; intro g2 c2 w2 k1 k2 k3; obtain ⟨f1, f2, f3, f4⟩ := H3.out _ w2 k1 k2 k3; clear k1 k2 k3)
    all_goals
      go_end0
      obtain ⟨who2, s2, t2, hcol⟩ := f4.out
      exact ⟨rfl, who2, _, HS1.out.trans s2 hszc, HT1.out.trans (t2.mono (fun x hx => Or.inl hx)) HS1.out, by rw [t2.block g (by omega) (by rw [HW1.out]; exact hne)]; exact HG1.out, hcol⟩
  clear hK1
  have hmod : xs.length % 65536 = 0 ∨ xs.length % 65536 ≠ 0 := by omega
  rcases hmod with hm | hm
  · obtain ⟨m', ao', co', us, e1, _, hmx, _, hown, hlastb, HF⟩ := HC.out.more hn hm HG.out HV.out hw hne hB
    injection e1 with ea eb ec
    subst ea eb ec
    have HO : Hid (w.ownsRow B 47 1 (.slice ao m co) m us) := hown
    have HFF : Hid _ := HF
    have HM : Hid (m = xs.length / 65536) := by rw [Hid]; omega
    clear HF hown hmx
    by_cases hmz : m = 0
    · subst hmz
      obtain ⟨MK, hMK, hmk⟩ : ∃ MK : Array Value, MK.size = 0 ∧ ∀ W : World, (Instr.makeSlice 47 (.int .i64 0) (.int .i64 0)).run Try.prog W = .ok (.slice (some ⟨W.heap.size, 0, none⟩) 0 0) (W.alloc (.cells MK 28)) := by
        refine ⟨madeCells (Value.int .u64 0).cells (0 * i0.size), by rw [size_madeCells]; omega, fun W => ?_⟩
        exact run_make (P := Try.prog) W 47 28 i0 (.int .u64 0) Try.underlying47 hi hz0 .i64 .i64 0 0 (Int.le_refl _) (by omega) (by omega) (by omega)
      have H4 : Hid _ := fun v3 w3 => HFF.out MK 0 v3 w3 hMK (by omega)
      have fB1 := (World.grownBy_alloc w (.cells MK 28) none).cell hc0 (by simp)
      have fB2 := (World.grownBy_alloc (w.alloc (.cells MK 28)) (.cells #[.slice (some ⟨w.heap.size, 0, none⟩) 0 0] 47) none).cell fB1 (by simp)
      clear hlastb HFF
      rw [← HM.out] at hrest
      have HN : Hid (∀ j u, [Value.slice (some ⟨w.heap.size, 0, none⟩) 0 0][j]? = some u → ((w.drew.alloc (.cells MK 28)).alloc (.cells #[.slice (some ⟨w.heap.size, 0, none⟩) 0 0] 47)).cell? ((⟨w.heap.size + 1, 0, none⟩ : Addr).add j) = some u) := fun j u hj => by
        have := cell_one_new (w.drew.alloc (.cells MK 28)) (.slice (some ⟨w.heap.size, 0, none⟩) 0 0) 47 j u hj
        simpa using this
      go_wp2_with fail
      go_region_law (refine step_append_at rfl (.tmp 31) (.tmp 34) 37 rfl B 47 i1 (.slice none 0 0) 24 Try.underlying37 hi1 hy0 hy1 hy2 rfl (.slice ao 0 co) 0 us rfl ((HO.out.drew.alloc _).alloc _) ⟨w.heap.size + 1, 0, none⟩ (.slice (some ⟨w.heap.size, 0, none⟩) 0 0) rfl HN.out rfl (by omega) (by omega) (by simp; omega) ?_; intro g2 c2 w2 k1 k2 k3; obtain ⟨f1, f2, f3⟩ := H4.out _ w2 k1 k2 (Or.elim k3 Or.inl (fun h => Or.inr (h.trans (congrArg some (by simp))))); clear k1 k2 k3)
      all_goals
        go_wp2
        obtain ⟨who1, r1, r2, r3, r4⟩ := f3.out
        exact hrest _ who1 _ _ _ _ _ _ _ _ _ _ _ _ _ _ _ _ _ _ _ _ _ _ _ _ _ _ _ _ _ _ _ _ _ _ _ _ _ _ _ _ _ _ _ _ _ _ _ _ _ _ _ _ _ _ ⟨r1, r2, r3, r4⟩
    · obtain ⟨go, gi, ci, rfl, hcl⟩ := hlastb (by omega)
      obtain ⟨last, rfl⟩ : ∃ last, m = last + 1 := ⟨m - 1, by omega⟩
      rw [Nat.add_sub_cancel] at hcl
      obtain ⟨MK, hMK, hmk⟩ : ∃ MK : Array Value, MK.size = 65536 ∧ ∀ W : World, (Instr.makeSlice 47 (.int .i64 0) (.int .i64 65536)).run Try.prog W = .ok (.slice (some ⟨W.heap.size, 0, none⟩) 0 65536) (W.alloc (.cells MK 28)) := by
        refine ⟨madeCells (Value.int .u64 0).cells (65536 * i0.size), by rw [size_madeCells, hz1], fun W => ?_⟩
        exact run_make (P := Try.prog) W 47 28 i0 (.int .u64 0) Try.underlying47 hi hz0 .i64 .i64 0 65536 (Int.le_refl _) (by omega) (by rw [hz2]; omega) (by omega)
      have H4 : Hid _ := fun v3 w3 => HFF.out MK 65536 v3 w3 hMK (by omega)
      have fB1 := (World.grownBy_alloc w (.cells MK 28) none).cell hc0 (by simp)
      have fB2 := (World.grownBy_alloc (w.alloc (.cells MK 28)) (.cells #[.slice (some ⟨w.heap.size, 0, none⟩) 0 65536] 47) none).cell fB1 (by simp)
      clear hlastb HFF hMK hmz
      rw [← HM.out, show ((last + 1 : Nat) : Int) = (last : Int) + 1 by omega] at hrest
      have HN : Hid (∀ j u, [Value.slice (some ⟨w.heap.size, 0, none⟩) 0 65536][j]? = some u → ((w.drew.alloc (.cells MK 28)).alloc (.cells #[.slice (some ⟨w.heap.size, 0, none⟩) 0 65536] 47)).cell? ((⟨w.heap.size + 1, 0, none⟩ : Addr).add j) = some u) := fun j u hj => by
        have := cell_one_new (w.drew.alloc (.cells MK 28)) (.slice (some ⟨w.heap.size, 0, none⟩) 0 65536) 47 j u hj
        simpa using this
      go_wp2_with fail
      go_region_law (refine step_append_at rfl (.tmp 31) (.tmp 34) 37 rfl B 47 i1 (.slice none 0 0) 24 Try.underlying37 hi1 hy0 hy1 hy2 rfl (.slice (some ⟨go, 0, none⟩) (last + 1) co) (last + 1) us rfl ((HO.out.drew.alloc _).alloc _) ⟨w.heap.size + 1, 0, none⟩ (.slice (some ⟨w.heap.size, 0, none⟩) 0 65536) rfl HN.out rfl (by omega) (by omega) (by simp; omega) ?_; intro g2 c2 w2 k1 k2 k3; obtain ⟨f1, f2, f3⟩ := H4.out _ w2 k1 k2 (Or.elim k3 Or.inl (fun h => Or.inr (h.trans (congrArg some (by simp))))); clear k1 k2 k3)
      all_goals
        go_wp2
        obtain ⟨who1, r1, r2, r3, r4⟩ := f3.out
        exact hrest _ who1 _ _ _ _ _ _ _ _ _ _ _ _ _ _ _ _ _ _ _ _ _ _ _ _ _ _ _ _ _ _ _ _ _ _ _ _ _ _ _ _ _ _ _ _ _ _ _ _ _ _ _ _ _ _ ⟨r1, r2, r3, r4⟩
  · obtain ⟨go, co2, last, gi, n, ci, e1, hcl, hsum, hn0, hn1⟩ := HC.out.last (by omega)
    injection e1 with ea eb ec
    subst ea eb ec
    have hn2 : ((n : Int) == 65536) = false := by rw [beq_eq_false_iff_ne]; omega
    have HL : Hid (last = xs.length / 65536) := by rw [Hid]; omega
    have hl100 : last ≤ 100 := by omega
    have HM : Hid (xs.length % 65536 ≠ 0) := hm
    clear hm hsum hm1
    rw [← HL.out] at hrest
    go_wp2
    exact hrest w who _ _ _ _ _ _ _ _ _ _ _ _ _ _ _ _ _ _ _ _ _ _ _ _ _ _ _ _ _ _ _ _ _ _ _ _ _ _ _ _ _ _ _ _ _ _ _ _ _ _ _ _ _ _ ⟨Same.refl _ _, Turn.refl _ _ _, by rw [set_same HV.out]; exact HG.out, HC.out.ready HM.out⟩

set_option maxHeartbeats 8000000 in
set_option maxRecDepth 100000 in
theorem push32 {B : Nat} {w : World} {who : Nat → Nat × Nat} {c hd : Nat} {v : Value} {xs : List Value} (h : Col B w who c 49 21 v xs) (hn : xs.length ≤ 2000000)
    {g off : Nat} {cs : Array Value} {ty : TypeId} (hg : w.heap[g]? = some (.cells cs ty (0, 0))) (hv : cs[off]? = some v) (hw : who g = (hd, 0)) (hne : hd ≠ c) (hB : B ≤ w.heap.size) (k : Int) :
    Calls Try.prog 23 #[.pointer (some ⟨g, off, none⟩), .int .i32 k] w fun e w' => e = .returned (.tuple #[]) ∧ ∃ who' v', Same w.heap.size who who' ∧ Turn (fun x => x = c ∨ x = hd) who w w' ∧ w'.heap[g]? = some (.cells (cs.setIfInBounds off v') ty (0, 0)) ∧ Col B w' who' c 49 21 v' (xs ++ [.int .i32 k]) := by
  obtain ⟨i0, hi, hz0, hz1, hz2⟩ := info_parts info21
  obtain ⟨i1, hi1, hy0, hy1, hy2⟩ := info_parts info49
  have hgl : g < w.heap.size := (Array.getElem?_eq_some_iff.1 hg).1
  have hol : off < cs.size := (Array.getElem?_eq_some_iff.1 hv).1
  have HG : Hid (w.heap[g]? = some (.cells cs ty (0, 0))) := hg
  have HV : Hid (cs[off]? = some v) := hv
  have HC : Hid (Col B w who c 49 21 v xs) := h
  have hc0 := (head_cell hg hv).1
  obtain ⟨m, ao, co, rfl, hm0⟩ : ∃ m ao co, v = .slice ao m co ∧ m = (xs.length + 65535) / 65536 := by
    obtain ⟨us, h1, h2, h3⟩ := h
    obtain ⟨ao, co, e, _⟩ := h1.len0
    exact ⟨us.length, ao, co, e, h2⟩
  have hm1 : m ≤ 100 := by omega
  have HM0 : Hid (m = (xs.length + 65535) / 65536) := hm0
  clear h hg hv hm0
  go_enter Try.func23, Try.ntmps23
  go_upto_region 1 with fail
  rename_i K1 hK1 K2 hK2
  have hrest : ∀ (wc : World) (who1 : Nat → Nat × Nat) (v1 : Value) (u2 u3 u5 u6 u7 u8 u9 u10 u11 u12 u13 u14 u15 u16 u17 u18 u19 u20 u21 u22 u23 u24 u25 u26 u27 u28 u29 u30 u31 u32 u33 u34 u35 u36 u37 u38 u39 u40 u41 u42 u43 u44 u45 u46 u47 u48 u49 u50 u51 u52 u53 u54 u55 : Value), Hid (Same w.heap.size who who1 ∧ Turn (fun x => x = c ∨ x = hd) who w wc ∧ wc.heap[g]? = some (.cells (cs.setIfInBounds off v1) ty (0, 0)) ∧ Ready B wc who1 c 49 21 v1 xs) →
      K1 ⟨#[.pointer (some ⟨g, off, none⟩), .int .i32 k, u2, u3, .int .i64 ((xs.length / 65536 : Nat) : Int), u5, u6, u7, u8, u9, u10, u11, u12, u13, u14, u15, u16, u17, u18, u19, u20, u21, u22, u23, u24, u25, u26, u27, u28, u29, u30, u31, u32, u33, u34, u35, u36, u37, u38, u39, u40, u41, u42, u43, u44, u45, u46, u47, u48, u49, u50, u51, u52, u53, u54, u55], []⟩ wc := by
    clear hK2
    intro wc who1 v1 u2 u3 u5 u6 u7 u8 u9 u10 u11 u12 u13 u14 u15 u16 u17 u18 u19 u20 u21 u22 u23 u24 u25 u26 u27 u28 u29 u30 u31 u32 u33 u34 u35 u36 u37 u38 u39 u40 u41 u42 u43 u44 u45 u46 u47 u48 u49 u50 u51 u52 u53 u54 u55 H
    obtain ⟨s1, t1, hg1, r1⟩ := H.out
    have hw1 : who1 g = (hd, 0) := by rw [s1 g hgl]; exact hw
    have hszc := t1.size
    have hvv : (cs.setIfInBounds off v1)[off]? = some v1 := by rw [Array.getElem?_setIfInBounds, if_pos rfl, if_pos hol]
    obtain ⟨go, last, co2, u, n, rfl, hl, hsum, hn1, hc1, hc2, ⟨ua, uc, rfl⟩, hown, HF⟩ := r1.push hn hg1 hvv hw1 hne (.int .i32 k)
    have el : xs.length / 65536 = last := by omega
    rw [el]
    have hlt1 : (last : Int) < (last : Int) + 1 := by omega
    have HO : Hid (wc.ownsRow B 21 1 (.slice ua n uc) n (chunk last xs)) := hown
    have H3 : Hid _ := fun v2 w2 => HF (.cells #[.int .i32 k] 21) v2 w2
    have fA1 := (World.grownBy_alloc wc (.cells #[.int .i32 k] 21) none).cell hc1 (by simp)
    have fA2 := (World.grownBy_alloc wc (.cells #[.int .i32 k] 21) none).cell hc2 (by simp)
    have HS1 : Hid (Same w.heap.size who who1) := s1
    have HT1 : Hid (Turn (fun x => x = c ∨ x = hd) who w wc) := t1
    have HG1 : Hid _ := hg1
    have HW1 : Hid (who1 g = (hd, 0)) := hw1
    refine hK1 _ _ ?_
    clear hK1 r1 HF hown H s1 t1 hg1 hw1 hsum el hvv
    go_region_law (refine step_append_at rfl (.tmp 51) (.tmp 53) 49 rfl B 21 i0 (.int .i32 0) 4 Try.underlying49 hi hz0 hz1 hz2 rfl _ n (chunk last xs) rfl (HO.out.drew.alloc _) ⟨wc.heap.size, 0, none⟩ (.int .i32 k) rfl (cell_one_new wc.drew _ _) rfl (by omega) (by omega) (by simp; omega) ?_; intro g2 c2 w2 k1 k2 k3; obtain ⟨f1, f2, f3, f4⟩ := H3.out _ w2 k1 k2 k3; clear k1 k2 k3)
    all_goals
      go_end0
      obtain ⟨who2, s2, t2, hcol⟩ := f4.out
      exact ⟨rfl, who2, _, HS1.out.trans s2 hszc, HT1.out.trans (t2.mono (fun x hx => Or.inl hx)) HS1.out, by rw [t2.block g (by omega) (by rw [HW1.out]; exact hne)]; exact HG1.out, hcol⟩
  clear hK1
  have hmod : xs.length % 65536 = 0 ∨ xs.length % 65536 ≠ 0 := by omega
  rcases hmod with hm | hm
  · obtain ⟨m', ao', co', us, e1, _, hmx, _, hown, hlastb, HF⟩ := HC.out.more hn hm HG.out HV.out hw hne hB
    injection e1 with ea eb ec
    subst ea eb ec
    have HO : Hid (w.ownsRow B 49 1 (.slice ao m co) m us) := hown
    have HFF : Hid _ := HF
    have HM : Hid (m = xs.length / 65536) := by rw [Hid]; omega
    clear HF hown hmx
    by_cases hmz : m = 0
    · subst hmz
      obtain ⟨MK, hMK, hmk⟩ : ∃ MK : Array Value, MK.size = 0 ∧ ∀ W : World, (Instr.makeSlice 49 (.int .i64 0) (.int .i64 0)).run Try.prog W = .ok (.slice (some ⟨W.heap.size, 0, none⟩) 0 0) (W.alloc (.cells MK 21)) := by
        refine ⟨madeCells (Value.int .i32 0).cells (0 * i0.size), by rw [size_madeCells]; omega, fun W => ?_⟩
        exact run_make (P := Try.prog) W 49 21 i0 (.int .i32 0) Try.underlying49 hi hz0 .i64 .i64 0 0 (Int.le_refl _) (by omega) (by omega) (by omega)
      have H4 : Hid _ := fun v3 w3 => HFF.out MK 0 v3 w3 hMK (by omega)
      have fB1 := (World.grownBy_alloc w (.cells MK 21) none).cell hc0 (by simp)
      have fB2 := (World.grownBy_alloc (w.alloc (.cells MK 21)) (.cells #[.slice (some ⟨w.heap.size, 0, none⟩) 0 0] 49) none).cell fB1 (by simp)
      clear hlastb HFF
      rw [← HM.out] at hrest
      have HN : Hid (∀ j u, [Value.slice (some ⟨w.heap.size, 0, none⟩) 0 0][j]? = some u → ((w.drew.alloc (.cells MK 21)).alloc (.cells #[.slice (some ⟨w.heap.size, 0, none⟩) 0 0] 49)).cell? ((⟨w.heap.size + 1, 0, none⟩ : Addr).add j) = some u) := fun j u hj => by
        have := cell_one_new (w.drew.alloc (.cells MK 21)) (.slice (some ⟨w.heap.size, 0, none⟩) 0 0) 49 j u hj
        simpa using this
      go_wp2_with fail
      go_region_law (refine step_append_at rfl (.tmp 31) (.tmp 34) 40 rfl B 49 i1 (.slice none 0 0) 24 Try.underlying40 hi1 hy0 hy1 hy2 rfl (.slice ao 0 co) 0 us rfl ((HO.out.drew.alloc _).alloc _) ⟨w.heap.size + 1, 0, none⟩ (.slice (some ⟨w.heap.size, 0, none⟩) 0 0) rfl HN.out rfl (by omega) (by omega) (by simp; omega) ?_; intro g2 c2 w2 k1 k2 k3; obtain ⟨f1, f2, f3⟩ := H4.out _ w2 k1 k2 (Or.elim k3 Or.inl (fun h => Or.inr (h.trans (congrArg some (by simp))))); clear k1 k2 k3)
      all_goals
        go_wp2
        obtain ⟨who1, r1, r2, r3, r4⟩ := f3.out
        exact hrest _ who1 _ _ _ _ _ _ _ _ _ _ _ _ _ _ _ _ _ _ _ _ _ _ _ _ _ _ _ _ _ _ _ _ _ _ _ _ _ _ _ _ _ _ _ _ _ _ _ _ _ _ _ _ _ _ ⟨r1, r2, r3, r4⟩
    · obtain ⟨go, gi, ci, rfl, hcl⟩ := hlastb (by omega)
      obtain ⟨last, rfl⟩ : ∃ last, m = last + 1 := ⟨m - 1, by omega⟩
      rw [Nat.add_sub_cancel] at hcl
      obtain ⟨MK, hMK, hmk⟩ : ∃ MK : Array Value, MK.size = 65536 ∧ ∀ W : World, (Instr.makeSlice 49 (.int .i64 0) (.int .i64 65536)).run Try.prog W = .ok (.slice (some ⟨W.heap.size, 0, none⟩) 0 65536) (W.alloc (.cells MK 21)) := by
        refine ⟨madeCells (Value.int .i32 0).cells (65536 * i0.size), by rw [size_madeCells, hz1], fun W => ?_⟩
        exact run_make (P := Try.prog) W 49 21 i0 (.int .i32 0) Try.underlying49 hi hz0 .i64 .i64 0 65536 (Int.le_refl _) (by omega) (by rw [hz2]; omega) (by omega)
      have H4 : Hid _ := fun v3 w3 => HFF.out MK 65536 v3 w3 hMK (by omega)
      have fB1 := (World.grownBy_alloc w (.cells MK 21) none).cell hc0 (by simp)
      have fB2 := (World.grownBy_alloc (w.alloc (.cells MK 21)) (.cells #[.slice (some ⟨w.heap.size, 0, none⟩) 0 65536] 49) none).cell fB1 (by simp)
      clear hlastb HFF hMK hmz
      rw [← HM.out, show ((last + 1 : Nat) : Int) = (last : Int) + 1 by omega] at hrest
      have HN : Hid (∀ j u, [Value.slice (some ⟨w.heap.size, 0, none⟩) 0 65536][j]? = some u → ((w.drew.alloc (.cells MK 21)).alloc (.cells #[.slice (some ⟨w.heap.size, 0, none⟩) 0 65536] 49)).cell? ((⟨w.heap.size + 1, 0, none⟩ : Addr).add j) = some u) := fun j u hj => by
        have := cell_one_new (w.drew.alloc (.cells MK 21)) (.slice (some ⟨w.heap.size, 0, none⟩) 0 65536) 49 j u hj
        simpa using this
      go_wp2_with fail
      go_region_law (refine step_append_at rfl (.tmp 31) (.tmp 34) 40 rfl B 49 i1 (.slice none 0 0) 24 Try.underlying40 hi1 hy0 hy1 hy2 rfl (.slice (some ⟨go, 0, none⟩) (last + 1) co) (last + 1) us rfl ((HO.out.drew.alloc _).alloc _) ⟨w.heap.size + 1, 0, none⟩ (.slice (some ⟨w.heap.size, 0, none⟩) 0 65536) rfl HN.out rfl (by omega) (by omega) (by simp; omega) ?_; intro g2 c2 w2 k1 k2 k3; obtain ⟨f1, f2, f3⟩ := H4.out _ w2 k1 k2 (Or.elim k3 Or.inl (fun h => Or.inr (h.trans (congrArg some (by simp))))); clear k1 k2 k3)
      all_goals
        go_wp2
        obtain ⟨who1, r1, r2, r3, r4⟩ := f3.out
        exact hrest _ who1 _ _ _ _ _ _ _ _ _ _ _ _ _ _ _ _ _ _ _ _ _ _ _ _ _ _ _ _ _ _ _ _ _ _ _ _ _ _ _ _ _ _ _ _ _ _ _ _ _ _ _ _ _ _ ⟨r1, r2, r3, r4⟩
  · obtain ⟨go, co2, last, gi, n, ci, e1, hcl, hsum, hn0, hn1⟩ := HC.out.last (by omega)
    injection e1 with ea eb ec
    subst ea eb ec
    have hn2 : ((n : Int) == 65536) = false := by rw [beq_eq_false_iff_ne]; omega
    have HL : Hid (last = xs.length / 65536) := by rw [Hid]; omega
    have hl100 : last ≤ 100 := by omega
    have HM : Hid (xs.length % 65536 ≠ 0) := hm
    clear hm hsum hm1
    rw [← HL.out] at hrest
    go_wp2
    exact hrest w who _ _ _ _ _ _ _ _ _ _ _ _ _ _ _ _ _ _ _ _ _ _ _ _ _ _ _ _ _ _ _ _ _ _ _ _ _ _ _ _ _ _ _ _ _ _ _ _ _ _ _ _ _ _ ⟨Same.refl _ _, Turn.refl _ _ _, by rw [set_same HV.out]; exact HG.out, HC.out.ready HM.out⟩

end Go.Proofs.Qxb6627791a
