/-
  DERIVED: THE SHELF's CONTRACTS AT THIS DUMP, IN PLAIN WORDS (tools/lay-plain.mjs out of 'YbadLay.lean', which tools/lay-shelf.mjs wrote): THE SAME DECLARATIONS UNDER THE SAME NAMES: 'import', 'namespace', 'open', 'def', 'theorem' AND NOTHING ELSE: no command of the shelf's: FOR A HAND-IN. Each laying: the table of numbers ('.._ren') and one theorem, a field a fact of the dump's own or the kernel's comparison; each contract: ONE APPLICATION.
-/
import Derived.Shelf.Bin.AppendUvarint
import Derived.Shelf.Bin.Uvarint
import Derived.Shelf.Bin.UvarintEmpty
import Derived.Test.YbulkcwmaDoorProg
namespace Go.Proofs
open Go.Shelf
def Ybad.laysVar47_ren : Go.Shelf.Ren := ⟨fun | 47 => 5 | n => n, fun | 22 => 23 | 33 => 25 | 4 => 4 | 5 => 5 | 45 => 46 | n => n, fun | n => n⟩
theorem Ybad.laysVar47 : Go.Proofs.LaysBin.n47 Ybad.prog Ybad.laysVar47_ren := {
  mixed := by kernel_rfl
  f47 := Ybad.func5.trans (congrArg some (by kernel_rfl))
  t4 := Ybad.underlying4
  a4 := Ybad.isAgg4
  z4 := Ybad.sizeOf4
  v4 := Ybad.zeroValue4
  i4 := by kernel_rfl
  t5 := Ybad.underlying5
  a5 := Ybad.isAgg5
  z5 := Ybad.sizeOf5
  v5 := Ybad.zeroValue5
  i5 := by kernel_rfl
  t22 := Ybad.underlying23
  a22 := Ybad.isAgg23
  z22 := Ybad.sizeOf23
  v22 := Ybad.zeroValue23
  i22 := by kernel_rfl
  t33 := Ybad.underlying25
  a33 := Ybad.isAgg25
  z33 := Ybad.sizeOf25
  v33 := Ybad.zeroValue25
  i33 := by kernel_rfl
  t45 := Ybad.underlying46
  a45 := Ybad.isAgg46
  z45 := Ybad.sizeOf46
  v45 := Ybad.zeroValue46
  i45 := by kernel_rfl }
def Ybad.laysVar45_ren : Go.Shelf.Ren := ⟨fun | 45 => 14 | n => n, fun | 22 => 23 | 33 => 25 | 3 => 3 | 45 => 46 | 0 => 0 | 5 => 5 | 4 => 4 | n => n, fun | n => n⟩
theorem Ybad.laysVar45 : Go.Proofs.LaysBin.n45 Ybad.prog Ybad.laysVar45_ren := {
  mixed := by kernel_rfl
  f45 := Ybad.func14.trans (congrArg some (by kernel_rfl))
  t0 := Ybad.underlying0
  a0 := Ybad.isAgg0
  z0 := Ybad.sizeOf0
  v0 := Ybad.zeroValue0
  i0 := by kernel_rfl
  t3 := Ybad.underlying3
  a3 := Ybad.isAgg3
  z3 := Ybad.sizeOf3
  v3 := Ybad.zeroValue3
  i3 := by kernel_rfl
  t4 := Ybad.underlying4
  a4 := Ybad.isAgg4
  z4 := Ybad.sizeOf4
  v4 := Ybad.zeroValue4
  i4 := by kernel_rfl
  t5 := Ybad.underlying5
  a5 := Ybad.isAgg5
  z5 := Ybad.sizeOf5
  v5 := Ybad.zeroValue5
  i5 := by kernel_rfl
  t22 := Ybad.underlying23
  a22 := Ybad.isAgg23
  z22 := Ybad.sizeOf23
  v22 := Ybad.zeroValue23
  i22 := by kernel_rfl
  t33 := Ybad.underlying25
  a33 := Ybad.isAgg25
  z33 := Ybad.sizeOf25
  v33 := Ybad.zeroValue25
  i33 := by kernel_rfl
  t45 := Ybad.underlying46
  a45 := Ybad.isAgg46
  z45 := Ybad.sizeOf46
  v45 := Ybad.zeroValue46
  i45 := by kernel_rfl }
end Go.Proofs
