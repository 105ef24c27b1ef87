/-
  No cell of these rows narrows 'for every input' (looked for: loops, veiled, ifaces, maps, wideKeys, modest, calm, conditions, laid).
  DERIVED. THE GIVEN ROWS OF THIS SEAT. 2 by the template 'for every input the law returns true; each argument reads behind the call as it read before'; 0 by the template 'total and deterministic' (their statements: Qxb6627791aTotals.lean).
  GIVEN WITH THE SEED: the statements are not yours to turn. If you find one false, say at which input.
  Laid BY PROGRAM, IN A SANDBOX (cutbox-rows.mjs): the forced cells as the released guide's own fill.sh prints them over the translation c536583105e811ae… (all of the seat's roots in one cut). By AI agents, Wed Nov 11 2026. No macro, syntax, notation, axiom, sorry.
-/
import Derived.Test.Qxb6627791aChecked
import GoSem.Claim
import GoSem.ClaimJoined
import GoSem.ClaimMapViews
import Derived.JoinedTies
import Derived.KernelRfl
namespace Go.Proofs.Qxb6627791a
/- THE CELL 'sum', in the pinned program and in every row, IS THE sha256 OF THE DUMP (.gsa) THAT Qxb6627791aProg.lean LOADS. Nothing in Lean hashes anything: it is a label: what it is worth is what the hold of that sum in a sandbox is worth. -/
noncomputable def Try.pinned : Pinned := { name := "qxb6627791a", sum := "c536583105e811aef951186c9751d7f4790b9e3794c82dad910a0a009e96c380", checked := Try.checked }
namespace Rows
def none {H : Type} : Left H := { results := [], args := [] }

/-- 'zzlaws_internal_heapgraph_b1.FnSetTypeScriptMatchesModel': WHATEVER THE INPUT: true; the input reads as it did. -/
def fnSetTypeScriptMatchesModelSpec : ChangeSpec := { name := "fnSetTypeScriptMatchesModel", fn := fun _ => fun
  | [d1, d2] => { results := [.lit (.bool true)], args := [d1, d2] }
  | _ => none }
def fnSetTypeScriptMatchesModelRow : OpenClaim := { program := "qxb6627791a", sum := "c536583105e811aef951186c9751d7f4790b9e3794c82dad910a0a009e96c380", func := "example.com/heapglass/heapglass/zzlaws_internal_heapgraph_b1.FnSetTypeScriptMatchesModel", spec := "fnSetTypeScriptMatchesModel", apart := false }
def FnSetTypeScriptMatchesModelSaid : Prop := fnSetTypeScriptMatchesModelRow.holds Try.pinned (OpenSpec.ofChange fnSetTypeScriptMatchesModelSpec)

/-- ITS FALSE NEIGHBOUR: 'it returns false'. Refute it at one input. -/
def fnSetTypeScriptMatchesModelWrong : ChangeSpec := { name := "fnSetTypeScriptMatchesModel", fn := fun _ => fun
  | [d1, d2] => { results := [.lit (.bool false)], args := [d1, d2] }
  | _ => none }
def FnSetTypeScriptMatchesModelWrongFalsely : Prop := fnSetTypeScriptMatchesModelRow.holds Try.pinned (OpenSpec.ofChange fnSetTypeScriptMatchesModelWrong)

/-- 'zzlaws_internal_heapgraph_b1.FnSetTypeTwiceIsOnce': WHATEVER THE INPUT: true; the input reads as it did. -/
def fnSetTypeTwiceIsOnceSpec : ChangeSpec := { name := "fnSetTypeTwiceIsOnce", fn := fun _ => fun
  | [d1, d2] => { results := [.lit (.bool true)], args := [d1, d2] }
  | _ => none }
def fnSetTypeTwiceIsOnceRow : OpenClaim := { program := "qxb6627791a", sum := "c536583105e811aef951186c9751d7f4790b9e3794c82dad910a0a009e96c380", func := "example.com/heapglass/heapglass/zzlaws_internal_heapgraph_b1.FnSetTypeTwiceIsOnce", spec := "fnSetTypeTwiceIsOnce", apart := false }
def FnSetTypeTwiceIsOnceSaid : Prop := fnSetTypeTwiceIsOnceRow.holds Try.pinned (OpenSpec.ofChange fnSetTypeTwiceIsOnceSpec)

/-- ITS FALSE NEIGHBOUR: 'it returns false'. Refute it at one input. -/
def fnSetTypeTwiceIsOnceWrong : ChangeSpec := { name := "fnSetTypeTwiceIsOnce", fn := fun _ => fun
  | [d1, d2] => { results := [.lit (.bool false)], args := [d1, d2] }
  | _ => none }
def FnSetTypeTwiceIsOnceWrongFalsely : Prop := fnSetTypeTwiceIsOnceRow.holds Try.pinned (OpenSpec.ofChange fnSetTypeTwiceIsOnceWrong)

end Rows
end Go.Proofs.Qxb6627791a
