/-
  NARROWER THAN 'FOR EVERY INPUT', by the rows' own cells (each row's printed sentence says how): FnCompareMatchesPointwiseOrder: maps.
  DERIVED. THE GIVEN ROWS OF THIS SEAT. 1 by the template 'for every input the law returns true; each argument reads behind the call as it read before'; 0 by the template 'total and deterministic' (their statements: Qxb6627440aTotals.lean).
  GIVEN WITH THE SEED: the statements are not yours to turn. If you find one false, say at which input.
  Laid BY PROGRAM, IN A SANDBOX (cutbox-rows.mjs): the forced cells as the released guide's own fill.sh prints them over the translation 33b4edd27db5851d… (all of the seat's roots in one cut). By AI agents, Wed Nov 11 2026. No macro, syntax, notation, axiom, sorry.
-/
import Derived.Test.Qxb6627440aChecked
import GoSem.Claim
import GoSem.ClaimJoined
import GoSem.ClaimMapViews
import Derived.JoinedTies
import Derived.KernelRfl
namespace Go.Proofs.Qxb6627440a
/- THE CELL 'sum', in the pinned program and in every row, IS THE sha256 OF THE DUMP (.gsa) THAT Qxb6627440aProg.lean LOADS. Nothing in Lean hashes anything: it is a label: what it is worth is what the hold of that sum in a sandbox is worth. -/
noncomputable def Try.pinned : Pinned := { name := "qxb6627440a", sum := "33b4edd27db5851d158b0260f104d962a9012b320cbfed97fe9207a06b510ad2", checked := Try.checked }
namespace Rows
def none {H : Type} : Left H := { results := [], args := [] }

/-- 'zzlaws_clock_b1.FnCompareMatchesPointwiseOrder': WHATEVER THE INPUT: true; the input reads as it did. -/
def fnCompareMatchesPointwiseOrderSpec : ChangeSpec := { name := "fnCompareMatchesPointwiseOrder", fn := fun _ => fun
  | [d1, d2, d3] => { results := [.lit (.bool true)], args := [d1, d2, d3] }
  | _ => none }
def fnCompareMatchesPointwiseOrderRow : OpenClaim := { program := "qxb6627440a", sum := "33b4edd27db5851d158b0260f104d962a9012b320cbfed97fe9207a06b510ad2", func := "example.com/antecede/antecede/zzlaws_clock_b1.FnCompareMatchesPointwiseOrder", spec := "fnCompareMatchesPointwiseOrder", maps := true, apart := false }
def FnCompareMatchesPointwiseOrderSaid : Prop := fnCompareMatchesPointwiseOrderRow.holds Try.pinned (OpenSpec.ofChange fnCompareMatchesPointwiseOrderSpec)

/-- ITS FALSE NEIGHBOUR: 'it returns false'. Refute it at one input. -/
def fnCompareMatchesPointwiseOrderWrong : ChangeSpec := { name := "fnCompareMatchesPointwiseOrder", fn := fun _ => fun
  | [d1, d2, d3] => { results := [.lit (.bool false)], args := [d1, d2, d3] }
  | _ => none }
def FnCompareMatchesPointwiseOrderWrongFalsely : Prop := fnCompareMatchesPointwiseOrderRow.holds Try.pinned (OpenSpec.ofChange fnCompareMatchesPointwiseOrderWrong)

end Rows
end Go.Proofs.Qxb6627440a
