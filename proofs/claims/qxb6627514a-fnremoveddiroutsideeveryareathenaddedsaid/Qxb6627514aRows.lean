/-
  No cell of these rows narrows 'for every input' (looked for: loops, veiled, ifaces, maps, wideKeys, modest, calm, conditions, laid).
  DERIVED. THE GIVEN ROWS OF THIS SEAT. 2 by the template 'for every input the law returns true; each argument reads behind the call as it read before'; 0 by the template 'total and deterministic' (their statements: Qxb6627514aTotals.lean).
  GIVEN WITH THE SEED: the statements are not yours to turn. If you find one false, say at which input.
  Laid BY PROGRAM, IN A SANDBOX (cutbox-rows.mjs): the forced cells as the released guide's own fill.sh prints them over the translation 8c4f22796c6d5658… (all of the seat's roots in one cut). By AI agents, Wed Nov 11 2026. No macro, syntax, notation, axiom, sorry.
-/
import Derived.Test.Qxb6627514aChecked
import GoSem.Claim
import GoSem.ClaimJoined
import GoSem.ClaimMapViews
import Derived.JoinedTies
import Derived.KernelRfl
namespace Go.Proofs.Qxb6627514a
/- THE CELL 'sum', in the pinned program and in every row, IS THE sha256 OF THE DUMP (.gsa) THAT Qxb6627514aProg.lean LOADS. Nothing in Lean hashes anything: it is a label: what it is worth is what the hold of that sum in a sandbox is worth. -/
noncomputable def Try.pinned : Pinned := { name := "qxb6627514a", sum := "8c4f22796c6d56585f19e87a96ef6f3eee7c1161052e9ea9c03122caa2687d88", checked := Try.checked }
namespace Rows
def none {H : Type} : Left H := { results := [], args := [] }

/-- 'zzlaws_config_b1.FnRemovedDirMirrorsBelowOutermostArea': WHATEVER THE INPUT: true; the input reads as it did. -/
def fnRemovedDirMirrorsBelowOutermostAreaSpec : ChangeSpec := { name := "fnRemovedDirMirrorsBelowOutermostArea", fn := fun _ => fun
  | [d1, d2, d3] => { results := [.lit (.bool true)], args := [d1, d2, d3] }
  | _ => none }
def fnRemovedDirMirrorsBelowOutermostAreaRow : OpenClaim := { program := "qxb6627514a", sum := "8c4f22796c6d56585f19e87a96ef6f3eee7c1161052e9ea9c03122caa2687d88", func := "example.com/softland/softland/zzlaws_config_b1.FnRemovedDirMirrorsBelowOutermostArea", spec := "fnRemovedDirMirrorsBelowOutermostArea", apart := false }
def FnRemovedDirMirrorsBelowOutermostAreaSaid : Prop := fnRemovedDirMirrorsBelowOutermostAreaRow.holds Try.pinned (OpenSpec.ofChange fnRemovedDirMirrorsBelowOutermostAreaSpec)

/-- ITS FALSE NEIGHBOUR: 'it returns false'. Refute it at one input. -/
def fnRemovedDirMirrorsBelowOutermostAreaWrong : ChangeSpec := { name := "fnRemovedDirMirrorsBelowOutermostArea", fn := fun _ => fun
  | [d1, d2, d3] => { results := [.lit (.bool false)], args := [d1, d2, d3] }
  | _ => none }
def FnRemovedDirMirrorsBelowOutermostAreaWrongFalsely : Prop := fnRemovedDirMirrorsBelowOutermostAreaRow.holds Try.pinned (OpenSpec.ofChange fnRemovedDirMirrorsBelowOutermostAreaWrong)

/-- 'zzlaws_config_b1.FnRemovedDirOutsideEveryAreaThenAdded': WHATEVER THE INPUT: true; the input reads as it did. -/
def fnRemovedDirOutsideEveryAreaThenAddedSpec : ChangeSpec := { name := "fnRemovedDirOutsideEveryAreaThenAdded", fn := fun _ => fun
  | [d1, d2, d3] => { results := [.lit (.bool true)], args := [d1, d2, d3] }
  | _ => none }
def fnRemovedDirOutsideEveryAreaThenAddedRow : OpenClaim := { program := "qxb6627514a", sum := "8c4f22796c6d56585f19e87a96ef6f3eee7c1161052e9ea9c03122caa2687d88", func := "example.com/softland/softland/zzlaws_config_b1.FnRemovedDirOutsideEveryAreaThenAdded", spec := "fnRemovedDirOutsideEveryAreaThenAdded", apart := false }
def FnRemovedDirOutsideEveryAreaThenAddedSaid : Prop := fnRemovedDirOutsideEveryAreaThenAddedRow.holds Try.pinned (OpenSpec.ofChange fnRemovedDirOutsideEveryAreaThenAddedSpec)

/-- ITS FALSE NEIGHBOUR: 'it returns false'. Refute it at one input. -/
def fnRemovedDirOutsideEveryAreaThenAddedWrong : ChangeSpec := { name := "fnRemovedDirOutsideEveryAreaThenAdded", fn := fun _ => fun
  | [d1, d2, d3] => { results := [.lit (.bool false)], args := [d1, d2, d3] }
  | _ => none }
def FnRemovedDirOutsideEveryAreaThenAddedWrongFalsely : Prop := fnRemovedDirOutsideEveryAreaThenAddedRow.holds Try.pinned (OpenSpec.ofChange fnRemovedDirOutsideEveryAreaThenAddedWrong)

end Rows
end Go.Proofs.Qxb6627514a
