/-
  Seat b4896aF: fmt.Errorf (16) by its contract: it hands back an error that is not nil; nothing old has turned.
-/
import Derived.Test.YbulkcwjiFmtRows
import Derived.Stop.CallBack
import Derived.Stop.IfaceNil
import Derived.WalkKit
import Derived.WalkSpells
import Derived.WalkLawsBesides
namespace Go.Proofs.YbulkcwjiFmt
open Go.RowKit Go.Extern.Stop Go.Stop Go.Extern

theorem Ybaf.call17 (args : Array Value) (w : World) : (callFunc 17 args).run Ybaf.prog w = ((FmtStop.errorf #[9, 70] #[30] args).run Ybaf.prog w).andThen fun v w' => .ok (.value v) w' :=
  run_callFunc_extern Ybaf.func17 (by kernel_rfl) (by kernel_rfl) (by kernel_rfl) (by kernel_rfl) args w
theorem Ybaf.guard (name : String) (w : World) : (FmtStop.guard name).run Ybaf.prog w = .ok () w := by kernel_rfl
theorem Ybaf.fmt0 : FmtStop.printed? ⟨#[112, 114, 111, 112, 111, 115, 97, 108, 115, 32, 105, 116, 101, 109, 32, 37, 100, 58, 32, 37, 115, 32, 37, 113, 58, 32, 110, 111, 116, 32, 111, 110, 32, 116, 104, 101, 32, 114, 101, 103, 105, 115, 116, 101, 114]⟩ 3 = some [(0, 100, false), (1, 115, false), (2, 113, false)] := by kernel_rfl
theorem Ybaf.fmt0r (w : World) : (FmtDoors.printed ⟨#[112, 114, 111, 112, 111, 115, 97, 108, 115, 32, 105, 116, 101, 109, 32, 37, 100, 58, 32, 37, 115, 32, 37, 113, 58, 32, 110, 111, 116, 32, 111, 110, 32, 116, 104, 101, 32, 114, 101, 103, 105, 115, 116, 101, 114]⟩ 3).run Ybaf.prog w = .ok [(0, 100, false), (1, 115, false), (2, 113, false)] w := by kernel_rfl
def Ybaf.shape9 : List UInt8 := [12, 6, 0, 0, 0, 0, 0, 0, 0, 115, 116, 114, 105, 110, 103]
def Ybaf.shape3 : List UInt8 := [5, 3, 0, 0, 0, 0, 0, 0, 0, 105, 110, 116]
theorem Ybaf.op9_115 (name : String) (x : ByteArray) (w : World) : (FmtStop.operand name false 115 false (.iface 9 (.string x))).run Ybaf.prog w = .ok (Ybaf.shape9, FmtStop.pack x.data.toList) w := by kernel_rfl
theorem Ybaf.op9_115w (name : String) (x : ByteArray) (w : World) : (FmtStop.operand name true 115 false (.iface 9 (.string x))).run Ybaf.prog w = .ok (Ybaf.shape9, FmtStop.pack x.data.toList) w := by kernel_rfl
theorem Ybaf.op9_113 (name : String) (x : ByteArray) (w : World) : (FmtStop.operand name false 113 false (.iface 9 (.string x))).run Ybaf.prog w = .ok (Ybaf.shape9, FmtStop.pack x.data.toList) w := by kernel_rfl
theorem Ybaf.op9_113w (name : String) (x : ByteArray) (w : World) : (FmtStop.operand name true 113 false (.iface 9 (.string x))).run Ybaf.prog w = .ok (Ybaf.shape9, FmtStop.pack x.data.toList) w := by kernel_rfl
theorem Ybaf.op3_100 (name : String) (x : Int) (w : World) : (FmtStop.operand name false 100 false (.iface 3 (.int .i64 x))).run Ybaf.prog w = .ok (Ybaf.shape3, Go.Extern.Stop.digits 8 (x % 2 ^ 64).toNat) w := by kernel_rfl
theorem Ybaf.op3_100w (name : String) (x : Int) (w : World) : (FmtStop.operand name true 100 false (.iface 3 (.int .i64 x))).run Ybaf.prog w = .ok (Ybaf.shape3, Go.Extern.Stop.digits 8 (x % 2 ^ 64).toNat) w := by kernel_rfl
theorem Ybaf.ptr73 (w : World) : (FmtStop.ptrTo "errors.errorString").run Ybaf.prog w = .ok 73 w := by kernel_rfl
theorem Ybaf.elem73 (w : World) : (elemOf 73).run Ybaf.prog w = .ok 75 w := by kernel_rfl
theorem Ybaf.isError73 (w : World) : (FmtDoors.textMethod 73 "Error").run Ybaf.prog w = .ok true w := by kernel_rfl

attribute [local go_sem] Ybaf.call17 Ybaf.guard Ybaf.fmt0 Ybaf.fmt0r Ybaf.op9_115 Ybaf.op9_115w Ybaf.op9_113 Ybaf.op9_113w Ybaf.op3_100 Ybaf.op3_100w Ybaf.ptr73 Ybaf.elem73 Ybaf.isError73

set_option maxHeartbeats 400000 in
theorem errorf_any (F : Interp) (i : Int) (s a : ByteArray) (blk : Nat) (w : World) (hF : F.answers w.tape)
    (hc0 : w.cell? ⟨blk, 0, none⟩ = some (.iface 3 (.int .i64 i))) (hc1 : w.cell? ⟨blk, 1, none⟩ = some (.iface 9 (.string s))) (hc2 : w.cell? ⟨blk, 2, none⟩ = some (.iface 9 (.string a))) :
    Calls Ybaf.prog 16 #[.string ⟨#[112, 114, 111, 112, 111, 115, 97, 108, 115, 32, 105, 116, 101, 109, 32, 37, 100, 58, 32, 37, 115, 32, 37, 113, 58, 32, 110, 111, 116, 32, 111, 110, 32, 116, 104, 101, 32, 114, 101, 103, 105, 115, 116, 101, 114]⟩, .slice (some ⟨blk, 0, none⟩) 3 3] w fun e w' =>
      ∃ u x, e = .returned (.iface u x) ∧ Below w.heap.size w w' := by
  have hF' := answers_open hF
  go_enter Ybaf.func16, Ybaf.ntmps16
  go_wp2
  go_ret
  exact ⟨_, _, rfl, ((Below.refl _ _).alloc (Nat.le_refl _) _).drew⟩
end Go.Proofs.YbulkcwjiFmt
