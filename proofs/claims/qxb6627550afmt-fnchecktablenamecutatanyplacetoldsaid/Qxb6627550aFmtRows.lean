/-
  No cell of these rows narrows 'for every input' (looked for: loops, veiled, ifaces, maps, wideKeys, modest, calm, conditions, laid).
  DERIVED. THE GIVEN ROWS OF THIS SEAT. 2 by the template 'for every input the law returns true; each argument reads behind the call as it read before'; 0 by the template 'total and deterministic' (their statements: Qxb6627550aFmtTotals.lean).
  GIVEN WITH THE SEED: the statements are not yours to turn. If you find one false, say at which input.
  Laid BY PROGRAM, IN A SANDBOX (cutbox-rows.mjs): the forced cells as the released guide's own fill.sh prints them over the translation aea7651d8bff3ae9… (all of the seat's roots in one cut). By AI agents, Wed Nov 11 2026. No macro, syntax, notation, axiom, sorry.
-/
import Derived.Test.Qxb6627550aFmtChecked
import GoSem.Claim
import GoSem.ClaimJoined
import GoSem.ClaimMapViews
import Derived.JoinedTies
import Derived.KernelRfl
namespace Go.Proofs.Qxb6627550aFmt
/- THE CELL 'sum', in the pinned program and in every row, IS THE sha256 OF THE DUMP (.gsa) THAT Qxb6627550aFmtProg.lean LOADS. Nothing in Lean hashes anything: it is a label: what it is worth is what the hold of that sum in a sandbox is worth. -/
noncomputable def Tryf.pinned : Pinned := { name := "qxb6627550afmt", sum := "aea7651d8bff3ae98312bd4d7a36fab53162f67b87ed090808a32299f95ce91b", checked := Tryf.checked }
namespace Rows
def none {H : Type} : Left H := { results := [], args := [] }

/-- 'zzlaws_root_b1.FnCheckTableNameMatchesAlphabetModel': WHATEVER THE INPUT: true; the input reads as it did. -/
def fnCheckTableNameMatchesAlphabetModelSpec : ChangeSpec := { name := "fnCheckTableNameMatchesAlphabetModel", fn := fun _ => fun
  | [d] => { results := [.lit (.bool true)], args := [d] }
  | _ => none }
def fnCheckTableNameMatchesAlphabetModelRow : OpenClaim := { program := "qxb6627550afmt", sum := "aea7651d8bff3ae98312bd4d7a36fab53162f67b87ed090808a32299f95ce91b", func := "example.com/libballot/libballot/zzlaws_root_b1.FnCheckTableNameMatchesAlphabetModel", spec := "fnCheckTableNameMatchesAlphabetModel", stops := ["fmt.errorf"], inPlace := ["fmt.errorf"], apart := false }
/-- NO THEOREM (fmt's text is open here; it may be false): for the released tool's asking of the row's closed facts alone. THE STATEMENT IS 'FnCheckTableNameMatchesAlphabetModelToldSaid' (Qxb6627550aFmtCards.lean). -/
def FnCheckTableNameMatchesAlphabetModelFormAsk : Prop := fnCheckTableNameMatchesAlphabetModelRow.holds Tryf.pinned (OpenSpec.ofChange fnCheckTableNameMatchesAlphabetModelSpec)

/-- ITS FALSE NEIGHBOUR: 'it returns false'. Refute it at one input. -/
def fnCheckTableNameMatchesAlphabetModelWrong : ChangeSpec := { name := "fnCheckTableNameMatchesAlphabetModel", fn := fun _ => fun
  | [d] => { results := [.lit (.bool false)], args := [d] }
  | _ => none }
def FnCheckTableNameMatchesAlphabetModelWrongFormAsk : Prop := fnCheckTableNameMatchesAlphabetModelRow.holds Tryf.pinned (OpenSpec.ofChange fnCheckTableNameMatchesAlphabetModelWrong)

/-- 'zzlaws_root_b1.FnCheckTableNameCutAtAnyPlace': WHATEVER THE INPUT: true; the input reads as it did. -/
def fnCheckTableNameCutAtAnyPlaceSpec : ChangeSpec := { name := "fnCheckTableNameCutAtAnyPlace", fn := fun _ => fun
  | [d1, d2] => { results := [.lit (.bool true)], args := [d1, d2] }
  | _ => none }
def fnCheckTableNameCutAtAnyPlaceRow : OpenClaim := { program := "qxb6627550afmt", sum := "aea7651d8bff3ae98312bd4d7a36fab53162f67b87ed090808a32299f95ce91b", func := "example.com/libballot/libballot/zzlaws_root_b1.FnCheckTableNameCutAtAnyPlace", spec := "fnCheckTableNameCutAtAnyPlace", stops := ["fmt.errorf"], inPlace := ["fmt.errorf"], apart := false }
/-- NO THEOREM (fmt's text is open here; it may be false): for the released tool's asking of the row's closed facts alone. THE STATEMENT IS 'FnCheckTableNameCutAtAnyPlaceToldSaid' (Qxb6627550aFmtCards.lean). -/
def FnCheckTableNameCutAtAnyPlaceFormAsk : Prop := fnCheckTableNameCutAtAnyPlaceRow.holds Tryf.pinned (OpenSpec.ofChange fnCheckTableNameCutAtAnyPlaceSpec)

/-- ITS FALSE NEIGHBOUR: 'it returns false'. Refute it at one input. -/
def fnCheckTableNameCutAtAnyPlaceWrong : ChangeSpec := { name := "fnCheckTableNameCutAtAnyPlace", fn := fun _ => fun
  | [d1, d2] => { results := [.lit (.bool false)], args := [d1, d2] }
  | _ => none }
def FnCheckTableNameCutAtAnyPlaceWrongFormAsk : Prop := fnCheckTableNameCutAtAnyPlaceRow.holds Tryf.pinned (OpenSpec.ofChange fnCheckTableNameCutAtAnyPlaceWrong)

end Rows
end Go.Proofs.Qxb6627550aFmt
