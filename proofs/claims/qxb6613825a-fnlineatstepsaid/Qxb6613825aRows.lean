/-
  No cell of these rows narrows 'for every input' (looked for: loops, veiled, ifaces, maps, wideKeys, modest, calm, conditions, laid).
  DERIVED. THE GIVEN ROWS OF THIS SEAT. 2 by the template 'for every input the law returns true; each argument reads behind the call as it read before'; 0 by the template 'total and deterministic' (their statements: Qxb6613825aTotals.lean).
  GIVEN WITH THE SEED: the statements are not yours to turn. If you find one false, say at which input.
  Laid BY PROGRAM, IN A SANDBOX (cutbox-rows.mjs): the forced cells as the released guide's own fill.sh prints them over the translation a6216d4b671c3de4… (all of the seat's roots in one cut). By AI agents, Wed Nov 11 2026. No macro, syntax, notation, axiom, sorry.
-/
import Derived.Test.Qxb6613825aChecked
import GoSem.Claim
import GoSem.ClaimJoined
import GoSem.ClaimMapViews
import Derived.JoinedTies
import Derived.KernelRfl
namespace Go.Proofs.Qxb6613825a
/- THE CELL 'sum', in the pinned program and in every row, IS THE sha256 OF THE DUMP (.gsa) THAT Qxb6613825aProg.lean LOADS. Nothing in Lean hashes anything: it is a label: what it is worth is what the hold of that sum in a sandbox is worth. -/
noncomputable def Try.pinned : Pinned := { name := "qxb6613825a", sum := "a6216d4b671c3de4528194a950e93a3e2919c9c8fff9ac3f03879d0be2c4f2b9", checked := Try.checked }
namespace Rows
def none {H : Type} : Left H := { results := [], args := [] }

/-- 'zzlaws_internal_tree_b1.FnLineAtCut': WHATEVER THE INPUT: true; the input reads as it did. -/
def fnLineAtCutSpec : ChangeSpec := { name := "fnLineAtCut", fn := fun _ => fun
  | [d1, d2, d3] => { results := [.lit (.bool true)], args := [d1, d2, d3] }
  | _ => none }
def fnLineAtCutRow : OpenClaim := { program := "qxb6613825a", sum := "a6216d4b671c3de4528194a950e93a3e2919c9c8fff9ac3f03879d0be2c4f2b9", func := "example.com/outboard/outboard/zzlaws_internal_tree_b1.FnLineAtCut", spec := "fnLineAtCut", inPlace := ["internal/bytealg.Count", "internal/bytealg.IndexByte", "internal/bytealg.Index"], named := ["internal/bytealg.MaxLen"], apart := false }
def FnLineAtCutSaid : Prop := fnLineAtCutRow.holds Try.pinned (OpenSpec.ofChange fnLineAtCutSpec)

/-- ITS FALSE NEIGHBOUR: 'it returns false'. Refute it at one input. -/
def fnLineAtCutWrong : ChangeSpec := { name := "fnLineAtCut", fn := fun _ => fun
  | [d1, d2, d3] => { results := [.lit (.bool false)], args := [d1, d2, d3] }
  | _ => none }
def FnLineAtCutWrongFalsely : Prop := fnLineAtCutRow.holds Try.pinned (OpenSpec.ofChange fnLineAtCutWrong)

/-- 'zzlaws_internal_tree_b1.FnLineAtStep': WHATEVER THE INPUT: true; the input reads as it did. -/
def fnLineAtStepSpec : ChangeSpec := { name := "fnLineAtStep", fn := fun _ => fun
  | [d1, d2] => { results := [.lit (.bool true)], args := [d1, d2] }
  | _ => none }
def fnLineAtStepRow : OpenClaim := { program := "qxb6613825a", sum := "a6216d4b671c3de4528194a950e93a3e2919c9c8fff9ac3f03879d0be2c4f2b9", func := "example.com/outboard/outboard/zzlaws_internal_tree_b1.FnLineAtStep", spec := "fnLineAtStep", inPlace := ["internal/bytealg.Count", "internal/bytealg.IndexByte", "internal/bytealg.Index"], named := ["internal/bytealg.MaxLen"], apart := false }
def FnLineAtStepSaid : Prop := fnLineAtStepRow.holds Try.pinned (OpenSpec.ofChange fnLineAtStepSpec)

/-- ITS FALSE NEIGHBOUR: 'it returns false'. Refute it at one input. -/
def fnLineAtStepWrong : ChangeSpec := { name := "fnLineAtStep", fn := fun _ => fun
  | [d1, d2] => { results := [.lit (.bool false)], args := [d1, d2] }
  | _ => none }
def FnLineAtStepWrongFalsely : Prop := fnLineAtStepRow.holds Try.pinned (OpenSpec.ofChange fnLineAtStepWrong)

end Rows
end Go.Proofs.Qxb6613825a
