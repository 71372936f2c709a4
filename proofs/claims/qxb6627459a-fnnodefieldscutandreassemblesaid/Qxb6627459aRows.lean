/-
  No cell of these rows narrows 'for every input' (looked for: loops, veiled, ifaces, maps, wideKeys, modest, calm, conditions, laid).
  DERIVED. THE GIVEN ROWS OF THIS SEAT. 2 by the template 'for every input the law returns true; each argument reads behind the call as it read before'; 0 by the template 'total and deterministic' (their statements: Qxb6627459aTotals.lean).
  GIVEN WITH THE SEED: the statements are not yours to turn. If you find one false, say at which input.
  Laid BY PROGRAM, IN A SANDBOX (cutbox-rows.mjs): the forced cells as the released guide's own fill.sh prints them over the translation 901857f62c0ade76… (all of the seat's roots in one cut). By AI agents, Wed Nov 11 2026. No macro, syntax, notation, axiom, sorry.
-/
import Derived.Test.Qxb6627459aChecked
import GoSem.Claim
import GoSem.ClaimJoined
import GoSem.ClaimMapViews
import Derived.JoinedTies
import Derived.KernelRfl
namespace Go.Proofs.Qxb6627459a
/- THE CELL 'sum', in the pinned program and in every row, IS THE sha256 OF THE DUMP (.gsa) THAT Qxb6627459aProg.lean LOADS. Nothing in Lean hashes anything: it is a label: what it is worth is what the hold of that sum in a sandbox is worth. -/
noncomputable def Try.pinned : Pinned := { name := "qxb6627459a", sum := "901857f62c0ade761244c8e41dff20b9c46cb59e9eb8aa513f98bb2d9870e32c", checked := Try.checked }
namespace Rows
def none {H : Type} : Left H := { results := [], args := [] }

/-- 'zzlaws_internal_snowflake_b1.FnNodeFieldsCutAndReassemble': WHATEVER THE INPUT: true; the input reads as it did. -/
def fnNodeFieldsCutAndReassembleSpec : ChangeSpec := { name := "fnNodeFieldsCutAndReassemble", fn := fun _ => fun
  | [d1, d2, d3, d4, d5, d6, d7] => { results := [.lit (.bool true)], args := [d1, d2, d3, d4, d5, d6, d7] }
  | _ => none }
def fnNodeFieldsCutAndReassembleRow : OpenClaim := { program := "qxb6627459a", sum := "901857f62c0ade761244c8e41dff20b9c46cb59e9eb8aa513f98bb2d9870e32c", func := "example.com/firn/firn/zzlaws_internal_snowflake_b1.FnNodeFieldsCutAndReassemble", spec := "fnNodeFieldsCutAndReassemble", apart := false }
def FnNodeFieldsCutAndReassembleSaid : Prop := fnNodeFieldsCutAndReassembleRow.holds Try.pinned (OpenSpec.ofChange fnNodeFieldsCutAndReassembleSpec)

/-- ITS FALSE NEIGHBOUR: 'it returns false'. Refute it at one input. -/
def fnNodeFieldsCutAndReassembleWrong : ChangeSpec := { name := "fnNodeFieldsCutAndReassemble", fn := fun _ => fun
  | [d1, d2, d3, d4, d5, d6, d7] => { results := [.lit (.bool false)], args := [d1, d2, d3, d4, d5, d6, d7] }
  | _ => none }
def FnNodeFieldsCutAndReassembleWrongFalsely : Prop := fnNodeFieldsCutAndReassembleRow.holds Try.pinned (OpenSpec.ofChange fnNodeFieldsCutAndReassembleWrong)

/-- 'zzlaws_internal_snowflake_b1.FnNodeFieldsComplementAndHighBits': WHATEVER THE INPUT: true; the input reads as it did. -/
def fnNodeFieldsComplementAndHighBitsSpec : ChangeSpec := { name := "fnNodeFieldsComplementAndHighBits", fn := fun _ => fun
  | [d1, d2, d3, d4, d5, d6] => { results := [.lit (.bool true)], args := [d1, d2, d3, d4, d5, d6] }
  | _ => none }
def fnNodeFieldsComplementAndHighBitsRow : OpenClaim := { program := "qxb6627459a", sum := "901857f62c0ade761244c8e41dff20b9c46cb59e9eb8aa513f98bb2d9870e32c", func := "example.com/firn/firn/zzlaws_internal_snowflake_b1.FnNodeFieldsComplementAndHighBits", spec := "fnNodeFieldsComplementAndHighBits", apart := false }
def FnNodeFieldsComplementAndHighBitsSaid : Prop := fnNodeFieldsComplementAndHighBitsRow.holds Try.pinned (OpenSpec.ofChange fnNodeFieldsComplementAndHighBitsSpec)

/-- ITS FALSE NEIGHBOUR: 'it returns false'. Refute it at one input. -/
def fnNodeFieldsComplementAndHighBitsWrong : ChangeSpec := { name := "fnNodeFieldsComplementAndHighBits", fn := fun _ => fun
  | [d1, d2, d3, d4, d5, d6] => { results := [.lit (.bool false)], args := [d1, d2, d3, d4, d5, d6] }
  | _ => none }
def FnNodeFieldsComplementAndHighBitsWrongFalsely : Prop := fnNodeFieldsComplementAndHighBitsRow.holds Try.pinned (OpenSpec.ofChange fnNodeFieldsComplementAndHighBitsWrong)

end Rows
end Go.Proofs.Qxb6627459a
