/-
  FnKeyStringFieldsComposeInOrder: the row (its listed tables as a condition), and the tied card.
-/
import Derived.Test.Qxb6627766aDoorRows
import Derived.Test.Qxb6627766aDoorTie
import Derived.Test.Qxb6627766aDoorCards
import Derived.Test.Qxb6627766aDoorComposeWalk
import Derived.ProofKit
import Derived.LaidMore
import Derived.OpenShut
import Derived.ShutString
import Derived.ChangeOld
import Derived.Below
import Derived.Stop.Joined
import Derived.Stop.LaidErr
import Derived.Lib.LaidTab
import Derived.WalkSmall
import Derived.SevenTiedAt
namespace Go.Proofs.Qxb6627766aDoor.fnKeyStringFieldsComposeInOrder
open Go.ChangeShapes Go.WideShapes Go.ChangeAt Go.RowKit
open Go.ChangeMaps (open_string shut_string)
set_option linter.unusedVariables false

theorem own : ownKnob Tryd.prog.godebug = none := by kernel_rfl
theorem laidOut : laidOutB Tryd.prog = true := by kernel_rfl

/-- The door's own heap meets the condition. -/
theorem door_met (os : Os) (args : Array Value) : laidMetH Tryd.prog Rows.fnKeyStringFieldsComposeInOrderRow.laid ((World.doorLaid Tryd.prog 24 os).forCall (fun _ _ => 0) ⟨#[], args, []⟩).memory :=
  laidMetH_of_parts3 (fuel := 8) (laidMet_of_run' 8 (by kernel_rfl) (by kernel_rfl)) (by kernel_rfl) (by kernel_rfl)

theorem gTab : Tryd.prog.globalNamed tabN = some 1 := by kernel_rfl
theorem gTabType : (Tryd.prog.globals[1]?).map (·.type) = some 56 := by kernel_rfl
theorem cellsE : Tryd.prog.cellsOf 42 = 1 := by kernel_rfl
theorem cellsT : Tryd.prog.cellsOf 56 = 20 := by kernel_rfl

/-- What the condition gives the walk. -/
theorem tab_of {W : World} (h : laidMetH Tryd.prog Rows.fnKeyStringFieldsComposeInOrderRow.laid W) : TabB W.heap.size W := by
  rw [MakeChecks.laidMetH_plain _ _ _ (by kernel_rfl)] at h
  have h2 : laidMet Tryd.prog [(tabN, Lib.tabData .u64 Lib.pow10Tab)] W := (laidMet.tail (laidMet.tail h))
  have h3 := Lib.tabIs_of_head gTab gTabType Tryd.underlying56 Tryd.underlying42 cellsE cellsT h2
  intro w' hb
  have hlt : 1 < W.heap.size := by
    have e : W.cell? ⟨1, 0, none⟩ = some (.int .u64 1) := (World.var?_cell gTab h3 0).trans (by kernel_rfl)
    exact World.block_lt_of_cell? W _ e
  exact var?_below hb gTab hlt h3

set_option maxRecDepth 100000 in
theorem lifted (os : Os) (started : os.Started) (H : Type) (enc : TypeId × Value → H) :
    ReturnsInHanded {} Tryd.checked os 4 .any (fun w args => (Rows.fnKeyStringFieldsComposeInOrderSpec.pre enc Tryd.prog Tryd.f4 [] false w args ∧ laidMetH Tryd.prog Rows.fnKeyStringFieldsComposeInOrderRow.laid w) ∧ sizedMet enc Tryd.prog Tryd.f4 (OpenSpec.ofChange Rows.fnKeyStringFieldsComposeInOrderSpec) false w args)
      (Rows.fnKeyStringFieldsComposeInOrderSpec.post enc Tryd.prog Tryd.f4 false true false false) := by
  refine returnsInHanded_of_change_and (C := Tryd.checked) (X := fun w _ => laidMetH Tryd.prog Rows.fnKeyStringFieldsComposeInOrderRow.laid w) (fun _ _ _ hh h => h.of_heap hh) own started (by kernel_rfl) Tryd.func4
    (ChangeSpec.witness_shaped (enc := enc) (C := Tryd.checked) (os := os) (X := fun w _ => laidMetH Tryd.prog Rows.fnKeyStringFieldsComposeInOrderRow.laid w) false (World.doorLaid Tryd.prog 24 os) #[.int .i64 0, .bool false, .int .i64 0, .bool false, .int .i64 0, .int .i64 0, .bool false] 8 rfl (World.shaped_of_RefB (by kernel_rfl) (by kernel_rfl)) (by kernel_rfl) (by kernel_rfl) (by kernel_rfl) (door_met os _)) ?_
  intro W base args ds gs before hval0 hW _ _ hL _
  have hval : ∀ (j : Nat) t v, Tryd.f4.params[j]? = some t → args[j]? = some v → Value.okWide Tryd.prog W .any base t v := hval0
  have hW' := hW
  obtain ⟨p, q, hA0, hV, rfl, hfz, hnd⟩ := hW
  have hA : DataW.TrodAll enc Tryd.prog W 0 (fun _ => true) true Tryd.f4.params.toList args.toList ds p := hA0
  rw [Tryd.params4] at hA hval
  obtain ⟨v0, vs0, d0, ds0, p0, q0, hargs, rfl, rfl, h0, r0⟩ := trodAll_cons hA
  obtain ⟨v1, vs1, d1, ds1, p1, q1, rfl, rfl, rfl, h1, r1⟩ := trodAll_cons r0
  obtain ⟨v2, vs2, d2, ds2, p2, q2, rfl, rfl, rfl, h2, r2⟩ := trodAll_cons r1
  obtain ⟨v3, vs3, d3, ds3, p3, q3, rfl, rfl, rfl, h3, r3⟩ := trodAll_cons r2
  obtain ⟨v4, vs4, d4, ds4, p4, q4, rfl, rfl, rfl, h4, r4⟩ := trodAll_cons r3
  obtain ⟨v5, vs5, d5, ds5, p5, q5, rfl, rfl, rfl, h5, r5⟩ := trodAll_cons r4
  obtain ⟨v6, vs6, d6, ds6, p6, q6, rfl, rfl, rfl, h6, r6⟩ := trodAll_cons r5
  obtain ⟨rfl, rfl, rfl⟩ := trodAll_nil r6
  obtain rfl : args = #[v0, v1, v2, v3, v4, v5, v6] := by cases args; simp_all
  obtain ⟨rfl, rfl⟩ := trodVars_none hV
  obtain ⟨a0, rfl, rfl, rfl, w0⟩ := open_int Tryd.underlying2 (hval 0 2 v0 rfl rfl) h0
  have b0 := bounds_i64 w0
  obtain ⟨a1, rfl, rfl, rfl⟩ := open_bool Tryd.underlying4 (hval 1 4 v1 rfl rfl) h1
  obtain ⟨a2, rfl, rfl, rfl, w2⟩ := open_int Tryd.underlying2 (hval 2 2 v2 rfl rfl) h2
  have b2 := bounds_i64 w2
  obtain ⟨a3, rfl, rfl, rfl⟩ := open_bool Tryd.underlying4 (hval 3 4 v3 rfl rfl) h3
  obtain ⟨a4, rfl, rfl, rfl, w4⟩ := open_int Tryd.underlying2 (hval 4 2 v4 rfl rfl) h4
  have b4 := bounds_i64 w4
  obtain ⟨a5, rfl, rfl, rfl, w5⟩ := open_int Tryd.underlying2 (hval 5 2 v5 rfl rfl) h5
  have b5 := bounds_i64 w5
  obtain ⟨a6, rfl, rfl, rfl⟩ := open_bool Tryd.underlying4 (hval 6 4 v6 rfl rfl) h6
  clear hA0 hval0
  refine (compose_walk a0 a1 a2 a3 a4 a5 a6 W b0.1 b0.2 b2.1 b2.2 b4.1 b4.2 b5.1 b5.2 (tab_of hL)).mono fun e W' ⟨he, bel⟩ => ?_
  subst he
  exact ⟨_, rfl, _, _, _, [], [], [], hW', trodAll_mk1 (shut_bool Tryd.underlying4 _), (trodAll_cons_mk (shut_int Tryd.underlying2 w0) (trodAll_cons_mk (shut_bool Tryd.underlying4 a1) (trodAll_cons_mk (shut_int Tryd.underlying2 w2) (trodAll_cons_mk (shut_bool Tryd.underlying4 a3) (trodAll_cons_mk (shut_int Tryd.underlying2 w4) (trodAll_cons_mk (shut_int Tryd.underlying2 w5) (trodAll_cons_mk (shut_bool Tryd.underlying4 a6) trodAll_mk0))))))), rfl, bel.frame _, fun h => by cases h⟩

theorem over : Rows.fnKeyStringFieldsComposeInOrderRow.holds Tryd.pinned (OpenSpec.ofChange Rows.fnKeyStringFieldsComposeInOrderSpec) :=
  OpenClaim.holds_of_wide 4 Tryd.f4 rfl rfl rfl rfl rfl rfl rfl ⟨rfl, rfl, rfl, rfl, rfl⟩ rfl rfl rfl rfl rfl (by kernel_rfl) Tryd.func4 (by kernel_rfl)
    (of_decide_eq_true (by kernel_rfl)) (by unfold Func.isWrapper; first | (rw [if_pos (by decide +kernel)]; kernel_rfl) | (rw [if_neg (by decide +kernel)]; exact ⟨rfl, rfl⟩))
    (fun os started H enc _ => lifted os started H enc)

/-- The statement: the tied card. -/
theorem proved : Rows.FnKeyStringFieldsComposeInOrderCardSaid :=
  Claim7.holds_tied_plain_at .later [] [.data, .data, .data] true Rows.fnKeyStringFieldsComposeInOrderCard.stood.harness false
    over (fun _ h => by cases h) (by kernel_rfl) (fun _ h => by cases h) fnKeyStringFieldsComposeInOrder_row_tie rfl ⟨rfl, rfl⟩ (by kernel_rfl) rfl
    (fun f fn hf hfn => by
      obtain rfl : f = 4 := Option.some.inj ((show Tryd.prog.funcNamed Rows.fnKeyStringFieldsComposeInOrderRow.func = some 4 by kernel_rfl).symm.trans hf) |>.symm
      obtain rfl : fn = Tryd.f4 := (Option.some.inj (Tryd.func4.symm.trans hfn)).symm
      exact ⟨by kernel_rfl, fun j t ht => by
        rw [Tryd.params4] at ht
        have hm : t ∈ [2, 4, 2, 4, 2, 2, 4] := by simpa using Array.mem_of_getElem? ht
        have hall : ([2, 4, 2, 4, 2, 2, 4].all fun u => !Tryd.prog.wantsStandIn u) = true := by kernel_rfl
        exact (show Tryd.prog.wantsStandIn t = false by simpa using List.all_eq_true.1 hall t hm)⟩)
    (by kernel_rfl)
end Go.Proofs.Qxb6627766aDoor.fnKeyStringFieldsComposeInOrder
