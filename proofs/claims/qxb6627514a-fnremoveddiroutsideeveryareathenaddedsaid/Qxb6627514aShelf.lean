/-
  Two contracts of the kit's shelf (strings.HasPrefix, path.Clean by the documentation's rules) laid at this program, written by the kit's own tool lay-plain.mjs.
-/
import Derived.Shelf.Strings.Prefix
import Derived.Shelf.Path.CleanRules
import Derived.Test.Qxb6627514aProg
namespace Go.Proofs
open Go.Shelf
def Try.lays99_ren : Go.Shelf.Ren := ⟨fun | 99 => 16 | 206 => 18 | n => n, fun | 9 => 9 | 4 => 4 | 3 => 3 | n => n, fun | n => n⟩
theorem Try.lays99 : Go.Proofs.Lays.n99 Try.prog Try.lays99_ren := {
  mixed := by kernel_rfl
  f99 := Try.func16.trans (congrArg some (by kernel_rfl))
  f206 := Try.func18.trans (congrArg some (by kernel_rfl))
  t3 := Try.underlying3
  a3 := Try.isAgg3
  z3 := Try.sizeOf3
  v3 := Try.zeroValue3
  t4 := Try.underlying4
  a4 := Try.isAgg4
  z4 := Try.sizeOf4
  v4 := Try.zeroValue4
  t9 := Try.underlying9
  a9 := Try.isAgg9
  z9 := Try.sizeOf9
  v9 := Try.zeroValue9 }
open Go.RowKit Go.Lib in
theorem Try.strings_HasPrefix (s p : ByteArray) (w : World) :
    Calls Try.prog 16 #[.string s, .string p] w fun e w' => e = .returned (.bool (Lib.hasPrefix s.data.toList p.data.toList)) ∧ w' = w := Any.strings_HasPrefix Try.lays99 s p w
def Try.laysPah30_ren : Go.Shelf.Ren := ⟨fun | 30 => 17 | 46 => 19 | 47 => 20 | 48 => 21 | n => n, fun | 9 => 9 | 4 => 4 | 5 => 5 | 3 => 3 | 42 => 36 | 0 => 0 | 48 => 40 | 30 => 34 | n => n, fun | n => n⟩
theorem Try.laysPah30 : Go.Proofs.Lays.ph30 Try.prog Try.laysPah30_ren := {
  mixed := by kernel_rfl
  f30 := Try.func17.trans (congrArg some (by kernel_rfl))
  f46 := Try.func19.trans (congrArg some (by kernel_rfl))
  f47 := Try.func20.trans (congrArg some (by kernel_rfl))
  f48 := Try.func21.trans (congrArg some (by kernel_rfl))
  t0 := Try.underlying0
  a0 := Try.isAgg0
  z0 := Try.sizeOf0
  v0 := Try.zeroValue0
  t3 := Try.underlying3
  a3 := Try.isAgg3
  z3 := Try.sizeOf3
  v3 := Try.zeroValue3
  t4 := Try.underlying4
  a4 := Try.isAgg4
  z4 := Try.sizeOf4
  v4 := Try.zeroValue4
  t5 := Try.underlying5
  a5 := Try.isAgg5
  z5 := Try.sizeOf5
  v5 := Try.zeroValue5
  t9 := Try.underlying9
  a9 := Try.isAgg9
  z9 := Try.sizeOf9
  v9 := Try.zeroValue9
  t30 := Try.underlying34
  a30 := Try.isAgg34
  z30 := Try.sizeOf34
  v30 := Try.zeroValue34
  t42 := Try.underlying36
  a42 := Try.isAgg36
  z42 := Try.sizeOf36
  v42 := Try.zeroValue36
  t48 := Try.underlying40
  a48 := Try.isAgg40
  z48 := Try.sizeOf40
  v48 := Try.zeroValue40
  info5 := by kernel_rfl }
open Go.RowKit Go.Lib in
theorem Try.path_Clean_rules (s : ByteArray) (w : World) (hbig : s.size ≤ 281474976710656) :
    Calls Try.prog 17 #[.string s] w fun e w' => e = .returned (.string ⟨(Pa.cleanEls s.data.toList).toArray⟩) ∧ Below w.heap.size w w' := Any.path_Clean_rules Try.laysPah30 s w hbig
end Go.Proofs
