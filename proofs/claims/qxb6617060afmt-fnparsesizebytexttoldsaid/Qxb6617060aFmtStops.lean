import Derived.Test.Qxb6617060aFmtProg
import Derived.Stop.CallBack
import Derived.Stop.IfaceNil
import GoSem.ClaimData
import Derived.WalkKit
import Derived.ProofKit
import Derived.Below
import Derived.WalkSpells
namespace Go.Proofs.Qxb6617060aFmt
open Go.RowKit Go.Extern.Stop Go.Stop Go.Extern
set_option linter.unusedVariables false

/-! ### fmt's stop: function 17. The closed facts for the one format of this dump, after the guide's CheckFmt.lean. -/
theorem call17 (args : Array Value) (w : World) : (callFunc 17 args).run Tryf.prog w = ((FmtStop.errorf #[9, 38] #[24] args).run Tryf.prog w).andThen fun v w' => .ok (.value v) w' :=
  run_callFunc_extern Tryf.func17 (by kernel_rfl) (by kernel_rfl) (by kernel_rfl) (by kernel_rfl) args w
theorem guard (name : String) (w : World) : (FmtStop.guard name).run Tryf.prog w = .ok () w := by kernel_rfl
theorem fmt0r (w : World) : (FmtDoors.printed ⟨#[116, 97, 103, 32, 37, 113, 32, 105, 115, 32, 110, 111, 116, 32, 97, 32, 115, 105, 122, 101, 32, 102, 114, 111, 109, 32, 49, 32, 116, 111, 32, 37, 100, 32, 112, 105, 120, 101, 108, 115]⟩ 2).run Tryf.prog w = .ok [(0, 113, false), (1, 100, false)] w := by kernel_rfl
theorem fmt0 : FmtStop.printed? ⟨#[116, 97, 103, 32, 37, 113, 32, 105, 115, 32, 110, 111, 116, 32, 97, 32, 115, 105, 122, 101, 32, 102, 114, 111, 109, 32, 49, 32, 116, 111, 32, 37, 100, 32, 112, 105, 120, 101, 108, 115]⟩ 2 = some [(0, 113, false), (1, 100, false)] := by kernel_rfl
def shape9 : List UInt8 := [12, 6, 0, 0, 0, 0, 0, 0, 0, 115, 116, 114, 105, 110, 103]
theorem op9_113w (name : String) (x : ByteArray) (w : World) : (FmtStop.operand name true 113 false (.iface 9 (.string x))).run Tryf.prog w = .ok (shape9, FmtStop.pack x.data.toList) w := by kernel_rfl
theorem op9_113 (name : String) (x : ByteArray) (w : World) : (FmtStop.operand name false 113 false (.iface 9 (.string x))).run Tryf.prog w = .ok (shape9, FmtStop.pack x.data.toList) w := by kernel_rfl
def shape3 : List UInt8 := [5, 3, 0, 0, 0, 0, 0, 0, 0, 105, 110, 116]
theorem op3_100w (name : String) (x : Int) (w : World) : (FmtStop.operand name true 100 false (.iface 3 (.int .i64 x))).run Tryf.prog w = .ok (shape3, Go.Extern.Stop.digits 8 (x % 2 ^ 64).toNat) w := by kernel_rfl
theorem op3_100 (name : String) (x : Int) (w : World) : (FmtStop.operand name false 100 false (.iface 3 (.int .i64 x))).run Tryf.prog w = .ok (shape3, Go.Extern.Stop.digits 8 (x % 2 ^ 64).toNat) w := by kernel_rfl
theorem ptr48 (w : World) : (FmtStop.ptrTo "errors.errorString").run Tryf.prog w = .ok 48 w := by kernel_rfl
theorem elem48 (w : World) : (elemOf 48).run Tryf.prog w = .ok 50 w := by kernel_rfl
theorem isError48' (w : World) : (FmtDoors.textMethod 48 "Error").run Tryf.prog w = .ok true w := by kernel_rfl
theorem ptr40 (w : World) : (FmtStop.ptrTo "fmt.wrapError").run Tryf.prog w = .ok 40 w := by kernel_rfl
theorem elem40 (w : World) : (elemOf 40).run Tryf.prog w = .ok 86 w := by kernel_rfl

attribute [local go_sem] call17 guard fmt0r fmt0 op9_113w op9_113 op3_100w op3_100 ptr48 elem48 isError48' ptr40 elem40

/-- fmt.Errorf at this program's one format: a new error that is not nil. -/
theorem errorf_any (tag : ByteArray) (blk : Nat) (w : World) (hc0 : w.cell? ⟨blk, 0, none⟩ = some (.iface 9 (.string tag))) (hc1 : w.cell? ⟨blk, 1, none⟩ = some (.iface 3 (.int .i64 16384))) :
    Calls Tryf.prog 14 #[.string ⟨#[116, 97, 103, 32, 37, 113, 32, 105, 115, 32, 110, 111, 116, 32, 97, 32, 115, 105, 122, 101, 32, 102, 114, 111, 109, 32, 49, 32, 116, 111, 32, 37, 100, 32, 112, 105, 120, 101, 108, 115]⟩, .slice (some ⟨blk, 0, none⟩) 2 2] w fun e w' =>
      e = .returned (.iface 48 (.pointer (some ⟨w.heap.size, 0, none⟩))) ∧ Below w.heap.size w w' := by
  go_enter Tryf.func14, Tryf.ntmps14
  go_wp2
  go_ret
  exact ⟨rfl, ((Below.refl _ _).alloc (Nat.le_refl _) _).drew⟩
end Go.Proofs.Qxb6617060aFmt
