/-
  DERIVED. GIVEN WITH THE SEED: THE CARDS: each row of Qxb6627550aFmtRows.lean that lists a variable, with what it lists TIED to the program's text (the seventh form; the later family's looks); each row that meets fmt, with fmt's text TOLD by the authors' own Lean function (tested against real Go, not proved from fmt's source: count such statements apart). THE CARD IS WHAT COUNTS. Prove the row's statement (the work); the ties are given (Qxb6627550aFmtTie.lean); close each card by the builder's one call (the guide's Derived/Test/ToyasCard.lean, 'card_holds'). Laid BY PROGRAM, IN A SANDBOX (cutbox-door.mjs). By AI agents, Wed Nov 11 2026. No macro, syntax, notation, axiom, sorry.
-/
import Derived.Test.Qxb6627550aFmtRows
import GoSem.ClaimSeven
namespace Go.Proofs.Qxb6627550aFmt
namespace Rows

/-- THE TOLD CARD OF 'zzlaws_root_b1.FnCheckTableNameMatchesAlphabetModel'. -/
def fnCheckTableNameMatchesAlphabetModelCard : Claim7 := { stood := { row := fnCheckTableNameMatchesAlphabetModelRow, standIns := [], harness := (true, "a2109b5400c807e2ce5dd2ca6f1274b0770ab247f5d43d54e09802f8553f5f2b"), looks := false }, told := true, goes := false }
def FnCheckTableNameMatchesAlphabetModelToldSaid : Prop := Claim7.holds Tryf.pinned (.plain (OpenSpec.ofChange fnCheckTableNameMatchesAlphabetModelSpec)) fnCheckTableNameMatchesAlphabetModelCard
/-- ITS FALSE NEIGHBOUR. Refute it at one input. -/
def FnCheckTableNameMatchesAlphabetModelToldWrongFalsely : Prop := Claim7.holds Tryf.pinned (.plain (OpenSpec.ofChange fnCheckTableNameMatchesAlphabetModelWrong)) fnCheckTableNameMatchesAlphabetModelCard

/-- THE TOLD CARD OF 'zzlaws_root_b1.FnCheckTableNameCutAtAnyPlace'. -/
def fnCheckTableNameCutAtAnyPlaceCard : Claim7 := { stood := { row := fnCheckTableNameCutAtAnyPlaceRow, standIns := [], harness := (true, "a2109b5400c807e2ce5dd2ca6f1274b0770ab247f5d43d54e09802f8553f5f2b"), looks := false }, told := true, goes := false }
def FnCheckTableNameCutAtAnyPlaceToldSaid : Prop := Claim7.holds Tryf.pinned (.plain (OpenSpec.ofChange fnCheckTableNameCutAtAnyPlaceSpec)) fnCheckTableNameCutAtAnyPlaceCard
/-- ITS FALSE NEIGHBOUR. Refute it at one input. -/
def FnCheckTableNameCutAtAnyPlaceToldWrongFalsely : Prop := Claim7.holds Tryf.pinned (.plain (OpenSpec.ofChange fnCheckTableNameCutAtAnyPlaceWrong)) fnCheckTableNameCutAtAnyPlaceCard
end Rows
end Go.Proofs.Qxb6627550aFmt
