/-
  THE CLOSED FACTS FOR A WALK OVER fmt.errorf (a stopped front of fmt), at the two formats that Step's first test can come to. Each by the kernel's own evaluation. After the guide's Derived/Test/CheckFmt.lean.
-/
import Derived.Test.YbulkehoyGreatFmtRows
import Derived.WalkKit
import Derived.WalkSpells
import Derived.WalkLawsBesides
import Derived.Stop.CallBack
import Derived.Stop.IfaceNil
namespace Go.Proofs.YbulkehoyGreatFmt
open Go.Extern.Stop Go.Stop Go.Extern

theorem Ybaz.call56 (args : Array Value) (w : World) : (callFunc 56 args).run Ybaz.prog w = ((FmtStop.errorf #[9, 125] #[85] args).run Ybaz.prog w).andThen fun v w' => .ok (.value v) w' :=
  run_callFunc_extern Ybaz.func56 (by kernel_rfl) (by kernel_rfl) (by kernel_rfl) (by kernel_rfl) args w
theorem Ybaz.guard (name : String) (w : World) : (FmtStop.guard name).run Ybaz.prog w = .ok () w := by kernel_rfl
theorem Ybaz.fmt0 : FmtStop.printed? ⟨#[113, 117, 111, 114, 117, 109, 108, 111, 103, 58, 32, 97, 32, 109, 101, 115, 115, 97, 103, 101, 32, 111, 102, 32, 117, 110, 107, 110, 111, 119, 110, 32, 107, 105, 110, 100, 32, 37, 100]⟩ 1 = some [(0, 100, false)] := by kernel_rfl
theorem Ybaz.fmt0r (w : World) : (FmtDoors.printed ⟨#[113, 117, 111, 114, 117, 109, 108, 111, 103, 58, 32, 97, 32, 109, 101, 115, 115, 97, 103, 101, 32, 111, 102, 32, 117, 110, 107, 110, 111, 119, 110, 32, 107, 105, 110, 100, 32, 37, 100]⟩ 1).run Ybaz.prog w = .ok [(0, 100, false)] w := by kernel_rfl
theorem Ybaz.fmt1 : FmtStop.printed? ⟨#[113, 117, 111, 114, 117, 109, 108, 111, 103, 58, 32, 97, 32, 109, 101, 115, 115, 97, 103, 101, 32, 111, 102, 32, 107, 105, 110, 100, 32, 37, 100, 32, 119, 104, 111, 115, 101, 32, 70, 114, 111, 109, 32, 37, 100, 32, 97, 110, 100, 32, 84, 111, 32, 37, 100, 32, 97, 114, 101, 32, 110, 111, 116, 32, 116, 119, 111, 32, 114, 101, 112, 108, 105, 99, 97, 32, 105, 100, 115, 32, 102, 114, 111, 109, 32, 49, 32, 116, 111, 32, 37, 100]⟩ 4 = some [(0, 100, false), (1, 100, false), (2, 100, false), (3, 100, false)] := by kernel_rfl
theorem Ybaz.fmt1r (w : World) : (FmtDoors.printed ⟨#[113, 117, 111, 114, 117, 109, 108, 111, 103, 58, 32, 97, 32, 109, 101, 115, 115, 97, 103, 101, 32, 111, 102, 32, 107, 105, 110, 100, 32, 37, 100, 32, 119, 104, 111, 115, 101, 32, 70, 114, 111, 109, 32, 37, 100, 32, 97, 110, 100, 32, 84, 111, 32, 37, 100, 32, 97, 114, 101, 32, 110, 111, 116, 32, 116, 119, 111, 32, 114, 101, 112, 108, 105, 99, 97, 32, 105, 100, 115, 32, 102, 114, 111, 109, 32, 49, 32, 116, 111, 32, 37, 100]⟩ 4).run Ybaz.prog w = .ok [(0, 100, false), (1, 100, false), (2, 100, false), (3, 100, false)] w := by kernel_rfl
def Ybaz.shape69 : List UInt8 := [6, 21, 0, 0, 0, 0, 0, 0, 0, 113, 117, 111, 114, 117, 109, 108, 111, 103, 46, 77, 101, 115, 115, 97, 103, 101, 75, 105, 110, 100]
def Ybaz.shape3 : List UInt8 := [5, 3, 0, 0, 0, 0, 0, 0, 0, 105, 110, 116]
theorem Ybaz.op69_100w (name : String) (x : Int) (w : World) : (FmtStop.operand name true 100 false (.iface 69 (.int .u8 x))).run Ybaz.prog w = .ok (Ybaz.shape69, Go.Extern.Stop.digits 8 (x % 2 ^ 64).toNat) w := by kernel_rfl
theorem Ybaz.op69_100 (name : String) (x : Int) (w : World) : (FmtStop.operand name false 100 false (.iface 69 (.int .u8 x))).run Ybaz.prog w = .ok (Ybaz.shape69, Go.Extern.Stop.digits 8 (x % 2 ^ 64).toNat) w := by kernel_rfl
theorem Ybaz.op3_100w (name : String) (x : Int) (w : World) : (FmtStop.operand name true 100 false (.iface 3 (.int .i64 x))).run Ybaz.prog w = .ok (Ybaz.shape3, Go.Extern.Stop.digits 8 (x % 2 ^ 64).toNat) w := by kernel_rfl
theorem Ybaz.op3_100 (name : String) (x : Int) (w : World) : (FmtStop.operand name false 100 false (.iface 3 (.int .i64 x))).run Ybaz.prog w = .ok (Ybaz.shape3, Go.Extern.Stop.digits 8 (x % 2 ^ 64).toNat) w := by kernel_rfl
theorem Ybaz.ptr162 (w : World) : (FmtStop.ptrTo "errors.errorString").run Ybaz.prog w = .ok 162 w := by kernel_rfl
theorem Ybaz.elem162 (w : World) : (elemOf 162).run Ybaz.prog w = .ok 164 w := by kernel_rfl
theorem Ybaz.isError162 (w : World) : (FmtDoors.textMethod 162 "Error").run Ybaz.prog w = .ok true w := by kernel_rfl
attribute [local go_sem] Ybaz.call56 Ybaz.guard Ybaz.fmt0 Ybaz.fmt0r Ybaz.fmt1 Ybaz.fmt1r Ybaz.op69_100w Ybaz.op69_100 Ybaz.op3_100w Ybaz.op3_100 Ybaz.ptr162 Ybaz.elem162 Ybaz.isError162

open Go.RowKit
set_option maxRecDepth 100000 in
set_option maxHeartbeats 400000 in
/-- fmt.Errorf at the first format: an error that is not nil; one new block, one draw. -/
theorem errorf_kind (F : Interp) (x : Int) (blk : Nat) (w : World) (hF : F.answers w.tape) (hc0 : w.cell? ⟨blk, 0, none⟩ = some (.iface 69 (.int .u8 x))) :
    Calls Ybaz.prog 22 #[.string ⟨#[113, 117, 111, 114, 117, 109, 108, 111, 103, 58, 32, 97, 32, 109, 101, 115, 115, 97, 103, 101, 32, 111, 102, 32, 117, 110, 107, 110, 111, 119, 110, 32, 107, 105, 110, 100, 32, 37, 100]⟩, .slice (some ⟨blk, 0, none⟩) 1 1] w fun e w' => ∃ v, e = .returned (.iface 162 v) ∧ Below w.heap.size w w' := by
  have hF' := answers_open hF
  go_enter Ybaz.func22, Ybaz.ntmps22
  go_wp2
  go_ret
  exact ⟨_, rfl, ((Below.refl _ _).alloc (Nat.le_refl _) _).drew⟩

set_option maxRecDepth 100000 in
set_option maxHeartbeats 400000 in
/-- fmt.Errorf at the second format. -/
theorem errorf_ids (F : Interp) (x y z u : Int) (blk : Nat) (w : World) (hF : F.answers w.tape) (hc0 : w.cell? ⟨blk, 0, none⟩ = some (.iface 69 (.int .u8 x)))
    (hc1 : w.cell? ⟨blk, 1, none⟩ = some (.iface 3 (.int .i64 y))) (hc2 : w.cell? ⟨blk, 2, none⟩ = some (.iface 3 (.int .i64 z))) (hc3 : w.cell? ⟨blk, 3, none⟩ = some (.iface 3 (.int .i64 u))) :
    Calls Ybaz.prog 22 #[.string ⟨#[113, 117, 111, 114, 117, 109, 108, 111, 103, 58, 32, 97, 32, 109, 101, 115, 115, 97, 103, 101, 32, 111, 102, 32, 107, 105, 110, 100, 32, 37, 100, 32, 119, 104, 111, 115, 101, 32, 70, 114, 111, 109, 32, 37, 100, 32, 97, 110, 100, 32, 84, 111, 32, 37, 100, 32, 97, 114, 101, 32, 110, 111, 116, 32, 116, 119, 111, 32, 114, 101, 112, 108, 105, 99, 97, 32, 105, 100, 115, 32, 102, 114, 111, 109, 32, 49, 32, 116, 111, 32, 37, 100]⟩, .slice (some ⟨blk, 0, none⟩) 4 4] w fun e w' => ∃ v, e = .returned (.iface 162 v) ∧ Below w.heap.size w w' := by
  have hF' := answers_open hF
  go_enter Ybaz.func22, Ybaz.ntmps22
  go_wp2
  go_ret
  exact ⟨_, rfl, ((Below.refl _ _).alloc (Nat.le_refl _) _).drew⟩

end Go.Proofs.YbulkehoyGreatFmt
