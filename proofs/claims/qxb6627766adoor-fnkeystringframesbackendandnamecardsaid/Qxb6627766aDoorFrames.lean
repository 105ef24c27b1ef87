/-
  FnKeyStringFramesBackendAndName: the row (its listed tables as a condition), and the tied card.
-/
import Derived.Test.Qxb6627766aDoorRows
import Derived.Test.Qxb6627766aDoorTie
import Derived.Test.Qxb6627766aDoorCards
import Derived.Test.Qxb6627766aDoorFramesWalk
import Derived.ProofKit
import Derived.LaidMore
import Derived.OpenShut
import Derived.ShutString
import Derived.ChangeOld
import Derived.Below
import Derived.Stop.Joined
import Derived.Stop.LaidErr
import Derived.Lib.LaidTab
import Derived.WalkSmall
import Derived.SevenTiedAt
namespace Go.Proofs.Qxb6627766aDoor.fnKeyStringFramesBackendAndName
open Go.ChangeShapes Go.WideShapes Go.ChangeAt Go.RowKit
open Go.ChangeMaps (open_string shut_string)
set_option linter.unusedVariables false

theorem own : ownKnob Tryd.prog.godebug = none := by kernel_rfl
theorem laidOut : laidOutB Tryd.prog = true := by kernel_rfl

/-- The door's own heap meets the condition. -/
theorem door_met (os : Os) (args : Array Value) : laidMetH Tryd.prog Rows.fnKeyStringFramesBackendAndNameRow.laid ((World.doorLaid Tryd.prog 24 os).forCall (fun _ _ => 0) ⟨#[], args, []⟩).memory :=
  laidMetH_of_parts3 (fuel := 8) (laidMet_of_run' 8 (by kernel_rfl) (by kernel_rfl)) (by kernel_rfl) (by kernel_rfl)

theorem gTab : Tryd.prog.globalNamed tabN = some 1 := by kernel_rfl
theorem gTabType : (Tryd.prog.globals[1]?).map (·.type) = some 56 := by kernel_rfl
theorem cellsE : Tryd.prog.cellsOf 42 = 1 := by kernel_rfl
theorem cellsT : Tryd.prog.cellsOf 56 = 20 := by kernel_rfl

/-- What the condition gives the walk. -/
theorem tab_of {W : World} (h : laidMetH Tryd.prog Rows.fnKeyStringFramesBackendAndNameRow.laid W) : TabB W.heap.size W := by
  rw [MakeChecks.laidMetH_plain _ _ _ (by kernel_rfl)] at h
  have h2 : laidMet Tryd.prog [(tabN, Lib.tabData .u64 Lib.pow10Tab)] W := (laidMet.tail (laidMet.tail h))
  have h3 := Lib.tabIs_of_head gTab gTabType Tryd.underlying56 Tryd.underlying42 cellsE cellsT h2
  intro w' hb
  have hlt : 1 < W.heap.size := by
    have e : W.cell? ⟨1, 0, none⟩ = some (.int .u64 1) := (World.var?_cell gTab h3 0).trans (by kernel_rfl)
    exact World.block_lt_of_cell? W _ e
  exact var?_below hb gTab hlt h3

set_option maxRecDepth 100000 in
theorem lifted (os : Os) (started : os.Started) (H : Type) (enc : TypeId × Value → H) :
    ReturnsInHanded {} Tryd.checked os 3 .any (fun w args => (Rows.fnKeyStringFramesBackendAndNameSpec.pre enc Tryd.prog Tryd.f3 [] false w args ∧ laidMetH Tryd.prog Rows.fnKeyStringFramesBackendAndNameRow.laid w) ∧ sizedMet enc Tryd.prog Tryd.f3 (OpenSpec.ofChange Rows.fnKeyStringFramesBackendAndNameSpec) false w args)
      (Rows.fnKeyStringFramesBackendAndNameSpec.post enc Tryd.prog Tryd.f3 false true false false) := by
  refine returnsInHanded_of_change_and (C := Tryd.checked) (X := fun w _ => laidMetH Tryd.prog Rows.fnKeyStringFramesBackendAndNameRow.laid w) (fun _ _ _ hh h => h.of_heap hh) own started (by kernel_rfl) Tryd.func3
    (ChangeSpec.witness_shaped (enc := enc) (C := Tryd.checked) (os := os) (X := fun w _ => laidMetH Tryd.prog Rows.fnKeyStringFramesBackendAndNameRow.laid w) false (World.doorLaid Tryd.prog 24 os) #[.string ByteArray.empty, .string ByteArray.empty, .int .i64 0, .bool false, .int .i64 0, .bool false, .int .i64 0, .int .i64 0, .bool false] 8 rfl (World.shaped_of_RefB (by kernel_rfl) (by kernel_rfl)) (by kernel_rfl) (by kernel_rfl) (by kernel_rfl) (door_met os _)) ?_
  intro W base args ds gs before hval0 hW _ _ hL _
  have hval : ∀ (j : Nat) t v, Tryd.f3.params[j]? = some t → args[j]? = some v → Value.okWide Tryd.prog W .any base t v := hval0
  have hW' := hW
  obtain ⟨p, q, hA0, hV, rfl, hfz, hnd⟩ := hW
  have hA : DataW.TrodAll enc Tryd.prog W 0 (fun _ => true) true Tryd.f3.params.toList args.toList ds p := hA0
  rw [Tryd.params3] at hA hval
  obtain ⟨v0, vs0, d0, ds0, p0, q0, hargs, rfl, rfl, h0, r0⟩ := trodAll_cons hA
  obtain ⟨v1, vs1, d1, ds1, p1, q1, rfl, rfl, rfl, h1, r1⟩ := trodAll_cons r0
  obtain ⟨v2, vs2, d2, ds2, p2, q2, rfl, rfl, rfl, h2, r2⟩ := trodAll_cons r1
  obtain ⟨v3, vs3, d3, ds3, p3, q3, rfl, rfl, rfl, h3, r3⟩ := trodAll_cons r2
  obtain ⟨v4, vs4, d4, ds4, p4, q4, rfl, rfl, rfl, h4, r4⟩ := trodAll_cons r3
  obtain ⟨v5, vs5, d5, ds5, p5, q5, rfl, rfl, rfl, h5, r5⟩ := trodAll_cons r4
  obtain ⟨v6, vs6, d6, ds6, p6, q6, rfl, rfl, rfl, h6, r6⟩ := trodAll_cons r5
  obtain ⟨v7, vs7, d7, ds7, p7, q7, rfl, rfl, rfl, h7, r7⟩ := trodAll_cons r6
  obtain ⟨v8, vs8, d8, ds8, p8, q8, rfl, rfl, rfl, h8, r8⟩ := trodAll_cons r7
  obtain ⟨rfl, rfl, rfl⟩ := trodAll_nil r8
  obtain rfl : args = #[v0, v1, v2, v3, v4, v5, v6, v7, v8] := by cases args; simp_all
  obtain ⟨rfl, rfl⟩ := trodVars_none hV
  obtain ⟨a0, rfl, rfl, rfl, w0⟩ := open_string Tryd.underlying9 (hval 0 9 v0 rfl rfl) h0
  obtain ⟨a1, rfl, rfl, rfl, w1⟩ := open_string Tryd.underlying9 (hval 1 9 v1 rfl rfl) h1
  obtain ⟨a2, rfl, rfl, rfl, w2⟩ := open_int Tryd.underlying2 (hval 2 2 v2 rfl rfl) h2
  have b2 := bounds_i64 w2
  obtain ⟨a3, rfl, rfl, rfl⟩ := open_bool Tryd.underlying4 (hval 3 4 v3 rfl rfl) h3
  obtain ⟨a4, rfl, rfl, rfl, w4⟩ := open_int Tryd.underlying2 (hval 4 2 v4 rfl rfl) h4
  have b4 := bounds_i64 w4
  obtain ⟨a5, rfl, rfl, rfl⟩ := open_bool Tryd.underlying4 (hval 5 4 v5 rfl rfl) h5
  obtain ⟨a6, rfl, rfl, rfl, w6⟩ := open_int Tryd.underlying2 (hval 6 2 v6 rfl rfl) h6
  have b6 := bounds_i64 w6
  obtain ⟨a7, rfl, rfl, rfl, w7⟩ := open_int Tryd.underlying2 (hval 7 2 v7 rfl rfl) h7
  have b7 := bounds_i64 w7
  obtain ⟨a8, rfl, rfl, rfl⟩ := open_bool Tryd.underlying4 (hval 8 4 v8 rfl rfl) h8
  clear hA0 hval0
  refine (frames_walk a0 a1 a2 a3 a4 a5 a6 a7 a8 W w0 w1 b2.1 b2.2 b4.1 b4.2 b6.1 b6.2 b7.1 b7.2 (tab_of hL)).mono fun e W' ⟨he, bel⟩ => ?_
  subst he
  exact ⟨_, rfl, _, _, _, [], [], [], hW', trodAll_mk1 (shut_bool Tryd.underlying4 _), (trodAll_cons_mk (shut_string Tryd.underlying9 w0) (trodAll_cons_mk (shut_string Tryd.underlying9 w1) (trodAll_cons_mk (shut_int Tryd.underlying2 w2) (trodAll_cons_mk (shut_bool Tryd.underlying4 a3) (trodAll_cons_mk (shut_int Tryd.underlying2 w4) (trodAll_cons_mk (shut_bool Tryd.underlying4 a5) (trodAll_cons_mk (shut_int Tryd.underlying2 w6) (trodAll_cons_mk (shut_int Tryd.underlying2 w7) (trodAll_cons_mk (shut_bool Tryd.underlying4 a8) trodAll_mk0))))))))), rfl, bel.frame _, fun h => by cases h⟩

theorem over : Rows.fnKeyStringFramesBackendAndNameRow.holds Tryd.pinned (OpenSpec.ofChange Rows.fnKeyStringFramesBackendAndNameSpec) :=
  OpenClaim.holds_of_wide 3 Tryd.f3 rfl rfl rfl rfl rfl rfl rfl ⟨rfl, rfl, rfl, rfl, rfl⟩ rfl rfl rfl rfl rfl (by kernel_rfl) Tryd.func3 (by kernel_rfl)
    (of_decide_eq_true (by kernel_rfl)) (by unfold Func.isWrapper; first | (rw [if_pos (by decide +kernel)]; kernel_rfl) | (rw [if_neg (by decide +kernel)]; exact ⟨rfl, rfl⟩))
    (fun os started H enc _ => lifted os started H enc)

/-- The statement: the tied card. -/
theorem proved : Rows.FnKeyStringFramesBackendAndNameCardSaid :=
  Claim7.holds_tied_plain_at .later [] [.data, .data, .data] true Rows.fnKeyStringFramesBackendAndNameCard.stood.harness false
    over (fun _ h => by cases h) (by kernel_rfl) (fun _ h => by cases h) fnKeyStringFramesBackendAndName_row_tie rfl ⟨rfl, rfl⟩ (by kernel_rfl) rfl
    (fun f fn hf hfn => by
      obtain rfl : f = 3 := Option.some.inj ((show Tryd.prog.funcNamed Rows.fnKeyStringFramesBackendAndNameRow.func = some 3 by kernel_rfl).symm.trans hf) |>.symm
      obtain rfl : fn = Tryd.f3 := (Option.some.inj (Tryd.func3.symm.trans hfn)).symm
      exact ⟨by kernel_rfl, fun j t ht => by
        rw [Tryd.params3] at ht
        have hm : t ∈ [9, 9, 2, 4, 2, 4, 2, 2, 4] := by simpa using Array.mem_of_getElem? ht
        have hall : ([9, 9, 2, 4, 2, 4, 2, 2, 4].all fun u => !Tryd.prog.wantsStandIn u) = true := by kernel_rfl
        exact (show Tryd.prog.wantsStandIn t = false by simpa using List.all_eq_true.1 hall t hm)⟩)
    (by kernel_rfl)
end Go.Proofs.Qxb6627766aDoor.fnKeyStringFramesBackendAndName
