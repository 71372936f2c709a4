/-
  The closed facts for the stop fmt.errorf at this program, and the contracts of errors.New and fmt.Errorf at its two formats.
-/
import Derived.Test.Qxb6627550aFmtRows
import Derived.WalkKit
import Derived.ProofKit
import Derived.WalkLawsBesides
import Derived.WalkSpells
import Derived.Stop.CallBack
import Derived.Stop.IfaceNil
import GoSem.ClaimData
namespace Go.Proofs.Qxb6627550aFmt
open Go.RowKit Go.Extern.Stop Go.Stop Go.Extern
set_option linter.unusedVariables false

theorem call12 (args : Array Value) (w : World) : (callFunc 12 args).run Tryf.prog w = ((FmtStop.errorf #[9, 33] #[24] args).run Tryf.prog w).andThen fun v w' => .ok (.value v) w' :=
  run_callFunc_extern Tryf.func12 (by kernel_rfl) (by kernel_rfl) (by kernel_rfl) (by kernel_rfl) args w
theorem guardF (name : String) (w : World) : (FmtStop.guard name).run Tryf.prog w = .ok () w := by kernel_rfl
theorem fmtA (w : World) : (FmtDoors.printed ⟨#[116, 97, 98, 108, 101, 32, 110, 97, 109, 101, 58, 32, 37, 100, 32, 98, 121, 116, 101, 115, 44, 32, 108, 111, 110, 103, 101, 114, 32, 116, 104, 97, 110, 32, 37, 100]⟩ 2).run Tryf.prog w = .ok [(0, 100, false), (1, 100, false)] w := by kernel_rfl
theorem fmtB (w : World) : (FmtDoors.printed ⟨#[116, 97, 98, 108, 101, 32, 110, 97, 109, 101, 32, 37, 113, 58, 32, 111, 110, 108, 121, 32, 97, 45, 122, 44, 32, 48, 45, 57, 32, 97, 110, 100, 32, 95, 44, 32, 110, 111, 116, 32, 115, 116, 97, 114, 116, 105, 110, 103, 32, 119, 105, 116, 104, 32, 97, 32, 100, 105, 103, 105, 116]⟩ 1).run Tryf.prog w = .ok [(0, 113, false)] w := by kernel_rfl
def shape9 : List UInt8 := [12, 6, 0, 0, 0, 0, 0, 0, 0, 115, 116, 114, 105, 110, 103]
def shape3 : List UInt8 := [5, 3, 0, 0, 0, 0, 0, 0, 0, 105, 110, 116]
theorem op9q (name : String) (x : ByteArray) (w : World) : (FmtStop.operand name true 113 false (.iface 9 (.string x))).run Tryf.prog w = .ok (shape9, FmtStop.pack x.data.toList) w := by kernel_rfl
theorem op3d (name : String) (x : Int) (w : World) : (FmtStop.operand name true 100 false (.iface 3 (.int .i64 x))).run Tryf.prog w = .ok (shape3, Go.Extern.Stop.digits 8 (x % 2 ^ 64).toNat) w := by kernel_rfl
theorem ptr30 (w : World) : (FmtStop.ptrTo "errors.errorString").run Tryf.prog w = .ok 30 w := by kernel_rfl
theorem elem30 (w : World) : (elemOf 30).run Tryf.prog w = .ok 32 w := by kernel_rfl

/-- A new error comes back; nothing old has turned. -/
structure ErrOut (w : World) (e : Ending) (w' : World) : Prop where
  out : ∃ x : Value, e = .returned (.iface 30 x)
  below : Below w.heap.size w w'

set_option maxHeartbeats 400000 in
theorem new_any (s : ByteArray) (w : World) : Calls Tryf.prog 9 #[.string s] w (ErrOut w) := by
  go_enter Tryf.func9, Tryf.ntmps9
  go_wp2
  go_ret
  exact ⟨⟨_, rfl⟩, (Below.refl _ _).alloc (Nat.le_refl _) _⟩

set_option maxHeartbeats 400000 in
theorem errorfA (F : Interp) (x : Int) (b : Nat) (w : World) (hF : F.answers w.tape) (c0 : w.cell? ⟨b, 0, none⟩ = some (.iface 3 (.int .i64 x))) (c1 : w.cell? ⟨b, 1, none⟩ = some (.iface 3 (.int .i64 63))) :
    Calls Tryf.prog 10 #[.string ⟨#[116, 97, 98, 108, 101, 32, 110, 97, 109, 101, 58, 32, 37, 100, 32, 98, 121, 116, 101, 115, 44, 32, 108, 111, 110, 103, 101, 114, 32, 116, 104, 97, 110, 32, 37, 100]⟩, .slice (some ⟨b, 0, none⟩) 2 2] w (ErrOut w) := by
  have hF' := answers_open hF
  have q1 := call12
  have q2 := guardF
  have q3 := fmtA
  have q4 := op3d
  have q5 := ptr30
  have q6 := elem30
  go_enter Tryf.func10, Tryf.ntmps10
  go_wp2
  go_ret
  exact ⟨⟨_, rfl⟩, ((Below.refl _ _).alloc (Nat.le_refl _) _).drew⟩

set_option maxHeartbeats 400000 in
theorem errorfB (F : Interp) (x : ByteArray) (b : Nat) (w : World) (hF : F.answers w.tape) (c0 : w.cell? ⟨b, 0, none⟩ = some (.iface 9 (.string x))) :
    Calls Tryf.prog 10 #[.string ⟨#[116, 97, 98, 108, 101, 32, 110, 97, 109, 101, 32, 37, 113, 58, 32, 111, 110, 108, 121, 32, 97, 45, 122, 44, 32, 48, 45, 57, 32, 97, 110, 100, 32, 95, 44, 32, 110, 111, 116, 32, 115, 116, 97, 114, 116, 105, 110, 103, 32, 119, 105, 116, 104, 32, 97, 32, 100, 105, 103, 105, 116]⟩, .slice (some ⟨b, 0, none⟩) 1 1] w (ErrOut w) := by
  have hF' := answers_open hF
  have q1 := call12
  have q2 := guardF
  have q3 := fmtB
  have q4 := op9q
  have q5 := ptr30
  have q6 := elem30
  go_enter Tryf.func10, Tryf.ntmps10
  go_wp2
  go_ret
  exact ⟨⟨_, rfl⟩, ((Below.refl _ _).alloc (Nat.le_refl _) _).drew⟩
end Go.Proofs.Qxb6627550aFmt
