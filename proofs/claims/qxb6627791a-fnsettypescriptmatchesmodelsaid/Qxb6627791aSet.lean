/-
  SetType.
-/
import Derived.Test.Qxb6627791aNames
import Derived.Deep.Cut
import Derived.Deep.RegionWith
import Derived.Lib.SliceRun
namespace Go.Proofs.Qxb6627791a
open Go.RowKit
open Go.Maps
set_option linter.unusedVariables false

theorem keyed9 : Keyed Try.prog 9 := string_keyed Try.underlying9
theorem zero21 (w : World) : (zeroValue 21).run Try.prog w = .ok (.int .i32 0) w := by kernel_rfl
theorem info9 : (Try.prog.info? 9).map (fun i => (i.zero, i.size, i.bytes)) = some (some (.string ByteArray.empty), 1, 16) := by kernel_rfl

theorem cellsT_set (ts : List Nat) (i t : Nat) : (cellsT ts).set i (.int .i32 (t : Int)) = cellsT (ts.set i t) := by simp [cellsT, List.map_set]

theorem wpList_append_at1 {P : Program} (w : World) {ops : Array Oper} {rest : List Oper} {o : Oper} {a : Act} {Q : Exit → Act → World → Prop} (hgd : o.guard = none) (s x : Operand) (t : TypeId)
    (ho : o.op = .call { callee := .builtin .append, args := #[s, x], argTypes := #[t, t] })
    (base : Nat) (e : TypeId) (i : TypeInfo) (z : Value) (bytes : Nat) (ht : P.underlying t = some (.slice e)) (hi : P.info? e = some i) (hz : i.zero = some z) (hsize : i.size = 1) (hby : i.bytes = bytes) (hzs : z.cells.size = 1)
    (v : Value) (n : Nat) (xs : List Value) (hs : a.eval s = v) (hown : w.ownsRow base e 1 v n xs)
    (ad : Addr) (X : Value) (hx : a.eval x = .slice (some ad) 1 1) (hnews : ∀ j u, [X][j]? = some u → w.cell? (ad.add j) = some u) (h1 : X.oneCell' = true)
    (hlen : n ≤ 2000000) (hbytes : bytes ≤ 1000) (hbase : base ≤ w.heap.size)
    (h : ∀ g' c' w', w'.ownsRow base e 1 (.slice (some ⟨g', 0, none⟩) (n + 1) c') (n + 1) (xs ++ [X]) → w.grownBy w' v.ownBlock → ((Value.slice (some ⟨g', 0, none⟩) (n + 1) c').ownBlock = v.ownBlock ∨ (Value.slice (some ⟨g', 0, none⟩) (n + 1) c').ownBlock = some w.heap.size) → wpList P ops Q rest (a.put o.dst (.slice (some ⟨g', 0, none⟩) (n + 1) c')) w') :
    wpList P ops Q (o :: rest) a w := by
  have hb : (n + 1) * bytes ≤ 140737488355328 := by
    have : (n + 1) * bytes ≤ 2000001 * 1000 := Nat.mul_le_mul (by omega) hbytes
    omega
  refine wpList_append_own_at w hgd s x t ho base e i z 1 bytes ht hi hz hsize hby hzs (by decide) v n xs hs hown ad 1 1 [X] hx rfl hnews (by intro u hu; simp at hu; subst hu; exact h1) (by unfold maxLen; omega) hb hbase ?_
  intro v' w' h2 h3 _ h5
  obtain ⟨g', c', rfl⟩ : ∃ g' c', v' = .slice (some ⟨g', 0, none⟩) (n + 1) c' := by
    rcases h2.2 with ⟨_, h0⟩ | ⟨g', c', _, e1, _⟩
    · omega
    · exact ⟨g', c', e1⟩
  exact h g' c' w' h2 h3 h5

set_option maxHeartbeats 8000000 in
set_option maxRecDepth 100000 in
theorem setType_any {B h g n : Nat} {who : Nat → Nat × Nat} {ts : List Nat} {tb : List ByteArray} (w : World) (hb : Bld B w who h g n ts tb) (hn : n ≤ 1500000) (hn0 : 0 < n) (ht : ts.length ≤ n) (htb : tb.length ≤ 5000) (hB : B ≤ w.heap.size) (s : ByteArray) (hs : s.size ≤ maxLen) :
    Calls Try.prog 8 #[.pointer (some ⟨g, 0, none⟩), .string s] w fun e w' => e = .returned (.tuple #[]) ∧ ∃ who', Same w.heap.size who who' ∧ Turn (CH h) who w w' ∧ Bld B w' who' h g n (setTs n ts (idx s (tab tb s))) (tab tb s) := by
  have HB0 : Hid (Bld B w who h g n ts tb) := hb
  clear hb
  go_enter Try.func8, Try.ntmps8
  go_upto_region 0 with fail
  rename_i K1 hK1 K0 hK0
  have hrest : ∀ (wc : World) (who1 : Nat → Nat × Nat) (u2 u3 u4 u5 u6 u7 u8 u9 u10 u11 u12 u13 u14 u15 u16 u17 u18 u19 u20 u21 u22 u23 u24 u25 u26 u27 u28 u29 u30 u31 u32 u33 u34 u35 u36 u37 u38 u39 u40 u41 u42 u43 u44 u45 u46 u47 u48 u49 u50 u51 u52 u53 u54 u55 u56 u57 u58 u59 u60 u61 u62 u63 u64 : Value), Hid (Same w.heap.size who who1 ∧ Turn (CH h) who w wc ∧ Bld B wc who1 h g n ts (base tb)) → K1 ⟨#[.pointer (some ⟨g, 0, none⟩), .string s, u2, u3, u4, u5, u6, u7, u8, u9, u10, u11, u12, u13, u14, u15, u16, u17, u18, u19, u20, u21, u22, u23, u24, u25, u26, u27, u28, u29, u30, u31, u32, u33, u34, u35, u36, u37, u38, u39, u40, u41, u42, u43, u44, u45, u46, u47, u48, u49, u50, u51, u52, u53, u54, u55, u56, u57, u58, u59, u60, u61, u62, u63, u64], []⟩ wc := by
    clear hK0
    intro wc who1 u2 u3 u4 u5 u6 u7 u8 u9 u10 u11 u12 u13 u14 u15 u16 u17 u18 u19 u20 u21 u22 u23 u24 u25 u26 u27 u28 u29 u30 u31 u32 u33 u34 u35 u36 u37 u38 u39 u40 u41 u42 u43 u44 u45 u46 u47 u48 u49 u50 u51 u52 u53 u54 u55 u56 u57 u58 u59 u60 u61 u62 u63 u64 H
    refine hK1 _ _ ?_
    clear hK1
    obtain ⟨s1, t1, A, T, N, M, b⟩ := H.out
    have hszr := t1.size
    obtain ⟨bm, D, hwb, hown, hok, rfl⟩ : ∃ bm D, who1 bm = (h + 4, 0) ∧ wc.ownsMap (H := Unit) Try.prog 9 (plainElem Try.prog 21) bm (base tb).length D ∧ MapOk D (base tb) ∧ M = .map (some bm) := by
      rcases b.map with ⟨e, _⟩ | ⟨bm, D, _, e2, e3, e4, e5⟩
      · exact absurd e (base_ne tb)
      · exact ⟨bm, D, e3, e4, e5, e2⟩
    have hc5 := (head_cell b.head (off := 5) (v := .map (some bm)) rfl).1
    have hc4 := (head_cell b.head (off := 4) (v := N) rfl).1
    have hc3 := (head_cell b.head (off := 3) (v := T) rfl).1
    have hkey : keyOf Try.prog 9 (.string s) = some (keyS s) := Go.WideMaps.keyOf_string_mk Try.underlying9 hs
    have HB : Hid _ := b
    have HOM : Hid (wc.ownsMap (H := Unit) Try.prog 9 (plainElem Try.prog 21) bm (base tb).length D) := hown
    have HOK : Hid (MapOk D (base tb)) := hok
    have HS1 : Hid (Same w.heap.size who who1) := s1
    have HT1 : Hid (Turn (CH h) who w wc) := t1
    clear b s1 t1 hown hok H
    go_upto_region 4 with (at_lookup; refine wpList_lookup_own_ok_int _ rfl _ _ 43 rfl 9 21 .i32 keyed9 Try.underlying43 Try.underlying21 (zero21 _) bm _ D rfl HOM.out _ _ rfl hkey ?_; intro c hat hwc)
    rename_i K2 hK2 K3 hK3
    have hrest2 : ∀ (wd : World) (who2 : Nat → Nat × Nat) (u2 u3 u5 u6 u7 u8 u9 u10 u11 u12 u13 u14 u15 u16 u17 u18 u19 u20 u21 u22 u23 u24 u25 u26 u27 u28 u29 u30 u31 u32 u33 u34 u35 u36 u37 u38 u39 u40 u41 u42 u43 u44 u45 u46 u47 u48 u49 u50 u51 u52 u53 u54 u55 u56 u57 u58 u59 u60 u61 u62 u63 u64 : Value), Hid (Same w.heap.size who who2 ∧ Turn (CH h) who w wd ∧ Bld B wd who2 h g n ts (tab tb s)) → K2 ⟨#[.pointer (some ⟨g, 0, none⟩), .string s, u2, u3, .int .i32 ((idx s (tab tb s) : Nat) : Int), u5, u6, u7, u8, u9, u10, u11, u12, u13, u14, u15, u16, u17, u18, u19, u20, u21, u22, u23, u24, u25, u26, u27, u28, u29, u30, u31, u32, u33, u34, u35, u36, u37, u38, u39, u40, u41, u42, u43, u44, u45, u46, u47, u48, u49, u50, u51, u52, u53, u54, u55, u56, u57, u58, u59, u60, u61, u62, u63, u64], []⟩ wd := by
      clear hK3 hc5 hc4 hc3 HB HOM HOK HS1 HT1 hat hwc
      intro wd who2 u2 u3 u5 u6 u7 u8 u9 u10 u11 u12 u13 u14 u15 u16 u17 u18 u19 u20 u21 u22 u23 u24 u25 u26 u27 u28 u29 u30 u31 u32 u33 u34 u35 u36 u37 u38 u39 u40 u41 u42 u43 u44 u45 u46 u47 u48 u49 u50 u51 u52 u53 u54 u55 u56 u57 u58 u59 u60 u61 u62 u63 u64 H
      refine hK2 _ _ ?_
      clear hK2
      have hszd := H.out.2.1.size
      go_wp2_with fail
      refine (pad_any wd H.out.2.2 hn ht (Nat.le_trans hB hszd)).mono ?_
      rintro e1 w3 ⟨rfl, who3, s3, t3, A3, T3, N3, M3, b3⟩
      have hc3 := (head_cell b3.head (off := 3) (v := T3) rfl).1
      have hpl : (cellsT (pad n ts)).length = n := by rw [cellsT_len, pad_len n ts ht]
      have HB3 : Hid _ := b3
      have HST : Hid (Same w.heap.size who who3 ∧ Turn (CH h) who w w3) := ⟨H.out.1.trans s3 hszd, H.out.2.1.trans t3 H.out.1⟩
      clear s3 t3 b3 H
      have c21 : Calls Try.prog 21 #[.pointer (some ⟨g, 3, none⟩)] w3.drew fun e w' => e = .returned (.int .i64 (n : Int)) ∧ w' = w3.drew := by
        have := len32 g 3 T3 _ w3.drew hc3 (HB3.out.types.turn ((Turn.refl (fun _ => False) who3 w3).drewN 1) (Same.refl _ _) (fun e => e)) (by rw [hpl]; omega)
        rwa [hpl] at this
      have c20 : Calls Try.prog 20 #[.pointer (some ⟨g, 3, none⟩), .int .i64 (IntKind.i64.wrap ((n : Int) - 1)), .int .i32 ((idx s (tab tb s) : Nat) : Int)] w3.drew fun e w' => e = .returned (.tuple #[]) ∧ Hid (∃ who', Same w.heap.size who who' ∧ Turn (CH h) who w w' ∧ Bld B w' who' h g n (setTs n ts (idx s (tab tb s))) (tab tb s)) := by
        have bq := HB3.out.turn ((Turn.refl (fun _ => False) who3 w3).drewN 1) (Same.refl _ _) (fun _ _ e => e)
        rw [show IntKind.i64.wrap ((n : Int) - 1) = ((n - 1 : Nat) : Int) by rw [IntKind.wrap_i64]; omega]
        refine (set_any g 3 (n - 1) T3 (.bool true) _ w3.drew hc3 bq.types (by rw [hpl]; omega) (by rw [hpl]; omega) _).mono ?_
        rintro e w' ⟨rfl, hcol, t⟩
        rw [cellsT_set] at hcol
        have hh' : w'.heap[g]? = some (.cells ((hdr A3 T3 N3 M3).setIfInBounds 3 T3) 51 (0, 0)) := by
          rw [t.block g bq.glt (by rw [bq.lab]; show ¬ h = h + 2; omega)]
          exact bq.head
        obtain ⟨t2, b2⟩ := Bld.grew bq (Same.refl _ _) (t.mono (fun x hx => Or.inl hx)) (v' := T3) (ts' := setTs n ts (idx s (tab tb s))) hh' hcol
        exact ⟨rfl, who3, HST.out.1, HST.out.2.trans (Turn.fromDrew (q := 1) t2) HST.out.1, b2⟩
      clear HB3 HST hpl
      go_wp2_with fail
      go_region_with (first | (go_at_call 21; refine c21.mono ?_; rintro e1 w4 ⟨rfl, rfl⟩) | (go_at_call 20; refine c20.mono ?_; rintro e1 w4 ⟨rfl, HF⟩))
      go_end0
      exact ⟨rfl, HF.out⟩
    clear hK2 hc3
    by_cases hmem : s ∈ base tb
    · have htab : tab tb s = base tb := addName_in hmem
      have hhas : Maps.has D (keyS s) = true := (HOK.out.has s).2 hmem
      have hcc : c = ((idx s (tab tb s) : Nat) : Int) := by
        have e := HOK.out.at_ _ s (idx_spec hmem)
        rw [hat, ← htab] at e
        injection e with e
        injection e with _ e
      subst hcc
      have HF : Hid (Same w.heap.size who who1 ∧ Turn (CH h) who w wc ∧ Bld B wc who1 h g n ts (tab tb s)) := ⟨HS1.out, HT1.out, by rw [htab]; exact ⟨_, _, _, _, HB.out⟩⟩
      clear hat hwc htab
      go_wp2
      exact hrest2 wc who1 _ _ _ _ _ _ _ _ _ _ _ _ _ _ _ _ _ _ _ _ _ _ _ _ _ _ _ _ _ _ _ _ _ _ _ _ _ _ _ _ _ _ _ _ _ _ _ _ _ _ _ _ _ _ _ _ _ _ _ _ _ _ HF
    · have htab : tab tb s = base tb ++ [s] := addName_out hmem
      have hhas : Maps.has D (keyS s) = false := by
        cases e : Maps.has D (keyS s) with
        | false => rfl
        | true => exact absurd ((HOK.out.has s).1 e) hmem
      have hbl : 0 < (base tb).length := by
        have := base_ne tb
        cases hb : base tb with
        | nil => exact absurd hb this
        | cons x y => simp
      have hb5 : (base tb).length ≤ 5001 := by
        cases tb with
        | nil => simp [base]
        | cons x y => rw [base_cons (by simp)]; omega
      have hidx : idx s (tab tb s) = (base tb).length := by rw [htab]; exact idx_new hmem
      have HTB : Hid (tab tb s = base tb ++ [s]) := htab
      rw [hidx] at hrest2
      have hwf : (Lit.int .i32 ((base tb).length : Int)).wf = true := WalkArith.wf_i32 ⟨by omega, by omega⟩
      obtain ⟨gN, cN, rfl, _⟩ := HB.out.names.found (by rw [cellsS_len]; exact hbl)
      rw [cellsS_len] at hc4 HB
      have HN : Hid (wc.ownsRow B 9 1 (.slice (some ⟨gN, 0, none⟩) (base tb).length cN) (base tb).length (cellsS (base tb))) := by
        have := HB.out.names.1
        rwa [cellsS_len] at this
      obtain ⟨i9, hi, hz0, hz1, hz2⟩ := info_parts info9
      have HP : Hid _ := fun g' c' w' => names_push HB.out hwb HOM.out HOK.out hmem (.cells #[.string s] 9) (.slice (some ⟨g', 0, none⟩) ((base tb).length + 1) c') w'
      have hBc : B ≤ wc.heap.size := Nat.le_trans hB hszr
      clear htab hidx hat hwc hmem HB HOM HOK hwb
      obtain ⟨L, hL⟩ : ∃ L, L = (base tb).length := ⟨_, rfl⟩
      go_wp2_with (first
        | (at_builtin; go_must (refine wpList_append_at1 _ rfl _ _ 23 rfl B 9 i9 (.string ByteArray.empty) 16 Try.underlying23 hi hz0 hz1 hz2 rfl _ _ _ rfl (HN.out.alloc _) ⟨wc.heap.size, 0, none⟩ (.string s) rfl (cell_one_new _ _ _) rfl (by omega) (by omega) (by simp; omega) ?_); intro g2 c2 w2 k1 k2 k3; obtain ⟨f1, f2, f3, HOM2, HX⟩ := HP.out g2 c2 w2 k1 k2 k3; have HX2 : Hid _ := HX; clear k1 k2 k3 HX)
        | (at_mapUpdate; go_must (refine wpList_mapUpdate_own _ rfl _ _ _ 43 rfl 9 21 keyed9 Try.underlying43 _ bm _ _ rfl HOM2.out (by unfold maxLen; omega) _ _ _ rfl rfl hkey _ [] (plainElem_int Try.underlying21 hwf) ?_); intro w4 m1 m2; have HF := HX2.out w4 m1 m2; clear m1 m2))
      obtain ⟨who4, s4, t4, b4⟩ := HF.out
      exact hrest2 w4 who4 _ _ _ _ _ _ _ _ _ _ _ _ _ _ _ _ _ _ _ _ _ _ _ _ _ _ _ _ _ _ _ _ _ _ _ _ _ _ _ _ _ _ _ _ _ _ _ _ _ _ _ _ _ _ _ _ _ _ _ _ _ _ ⟨HS1.out.trans s4 hszr, HT1.out.trans t4 HS1.out, by rw [HTB.out]; exact b4⟩
  clear hK1
  obtain ⟨A, T, N, M, b⟩ := HB0.out
  have qE : ∀ (w : World) (a : Option Addr) (n c n' c' : Nat), (binOp .eql 23 (.slice a n c) (.slice none n' c')).run Try.prog w = .ok (.bool a.isNone) w := fun w a n c n' c' => Go.Lib.run_eql_slice_nil w 23 9 a n c n' c' Try.underlying23
  by_cases htb0 : tb = []
  · subst htb0
    obtain rfl := b.nilN rfl
    have hc4 := head_cell b.head (off := 4) (v := .slice none 0 0) rfl
    have hgl := b.glt
    obtain ⟨hszW, HMK, HX⟩ := names_new b hB _ _ _ rfl rfl rfl
    have HXX : Hid _ := HX
    obtain ⟨hc41, hc42⟩ := hc4
    have hmm := @run_makeMap Try.prog
    have hkey : keyOf Try.prog 9 (.string ByteArray.empty) = some (keyS ByteArray.empty) := Go.WideMaps.keyOf_string_mk Try.underlying9 (by decide)
    have hwf : (Lit.int .i32 0).wf = true := by decide
    clear b HB0 hszW HX
    go_wp2_with (have _t := HMK; refine wpList_insert_own _ rfl (.tmp 16) (.const (.string ByteArray.empty)) (.const (.int .i32 0)) 43 rfl 9 21 keyed9 Try.underlying43 _ (w.heap.size + 1) 0 _ rfl HMK.out (by decide) _ _ _ rfl rfl hkey _ [] (plainElem_int Try.underlying21 hwf) ?_; intro w4 m1 m2; obtain ⟨f1, f2, HF⟩ := HXX.out w4 m1 m2; clear HMK m1 m2)
    obtain ⟨who4, s4, t4, b4⟩ := HF.out
    exact hrest _ who4 _ _ _ _ _ _ _ _ _ _ _ _ _ _ _ _ _ _ _ _ _ _ _ _ _ _ _ _ _ _ _ _ _ _ _ _ _ _ _ _ _ _ _ _ _ _ _ _ _ _ _ _ _ _ _ _ _ _ _ _ _ _ _ ⟨s4, t4, b4⟩
  · obtain ⟨gN, cN, rfl, _⟩ := b.names.found (by rw [cellsS_len]; cases tb with | nil => exact absurd rfl htb0 | cons x y => simp)
    have hc4 := (head_cell b.head (off := 4) (v := .slice (some ⟨gN, 0, none⟩) (cellsS tb).length cN) rfl).1
    have HF : Hid (Same w.heap.size who who ∧ Turn (CH h) who w w ∧ Bld B w who h g n ts (base tb)) := ⟨Same.refl _ _, Turn.refl _ _ _, by rw [base_cons htb0]; exact HB0.out⟩
    clear b HB0
    go_wp2
    exact hrest w who _ _ _ _ _ _ _ _ _ _ _ _ _ _ _ _ _ _ _ _ _ _ _ _ _ _ _ _ _ _ _ _ _ _ _ _ _ _ _ _ _ _ _ _ _ _ _ _ _ _ _ _ _ _ _ _ _ _ _ _ _ _ _ HF

end Go.Proofs.Qxb6627791a
