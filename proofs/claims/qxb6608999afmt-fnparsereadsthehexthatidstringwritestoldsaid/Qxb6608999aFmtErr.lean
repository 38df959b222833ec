/-
  fmt.Errorf at "%s is not below 2^%d": it returns an error that is not nil. The facts for the stop, after the worked GuardFmt.
-/
import Derived.Test.Qxb6608999aFmtReader
import Derived.Stop.CallBack
import Derived.Stop.IfaceNil
import GoSem.ClaimData
namespace Go.Proofs.Qxb6608999aFmt
open Go.RowKit Go.Extern.Stop Go.Stop Go.Extern
set_option linter.unusedVariables false

theorem err_call28 (args : Array Value) (w : World) : (callFunc 28 args).run Tryf.prog w = ((FmtStop.errorf #[9, 57] #[28] args).run Tryf.prog w).andThen fun v w' => .ok (.value v) w' :=
  run_callFunc_extern Tryf.func28 (by kernel_rfl) (by kernel_rfl) (by kernel_rfl) (by kernel_rfl) args w
theorem err_guard (name : String) (w : World) : (FmtStop.guard name).run Tryf.prog w = .ok () w := by kernel_rfl
theorem err_fmt : FmtStop.printed? ⟨#[37, 115, 32, 105, 115, 32, 110, 111, 116, 32, 98, 101, 108, 111, 119, 32, 50, 94, 37, 100]⟩ 2 = some [(0, 115, false), (1, 100, false)] := by kernel_rfl
theorem err_fmtr (w : World) : (FmtDoors.printed ⟨#[37, 115, 32, 105, 115, 32, 110, 111, 116, 32, 98, 101, 108, 111, 119, 32, 50, 94, 37, 100]⟩ 2).run Tryf.prog w = .ok [(0, 115, false), (1, 100, false)] w := by kernel_rfl
def err_shape9 : List UInt8 := [12, 6, 0, 0, 0, 0, 0, 0, 0, 115, 116, 114, 105, 110, 103]
def err_shape3 : List UInt8 := [5, 3, 0, 0, 0, 0, 0, 0, 0, 105, 110, 116]
theorem err_op9 (name : String) (x : ByteArray) (w : World) : (FmtStop.operand name true 115 false (.iface 9 (.string x))).run Tryf.prog w = .ok (err_shape9, FmtStop.pack x.data.toList) w := by kernel_rfl
theorem err_op9' (name : String) (x : ByteArray) (w : World) : (FmtStop.operand name false 115 false (.iface 9 (.string x))).run Tryf.prog w = .ok (err_shape9, FmtStop.pack x.data.toList) w := by kernel_rfl
theorem err_op3 (name : String) (x : Int) (w : World) : (FmtStop.operand name true 100 false (.iface 3 (.int .i64 x))).run Tryf.prog w = .ok (err_shape3, Go.Extern.Stop.digits 8 (x % 2 ^ 64).toNat) w := by kernel_rfl
theorem err_op3' (name : String) (x : Int) (w : World) : (FmtStop.operand name false 100 false (.iface 3 (.int .i64 x))).run Tryf.prog w = .ok (err_shape3, Go.Extern.Stop.digits 8 (x % 2 ^ 64).toNat) w := by kernel_rfl
theorem err_ptr (w : World) : (FmtStop.ptrTo "errors.errorString").run Tryf.prog w = .ok 79 w := by kernel_rfl
theorem err_elem (w : World) : (elemOf 79).run Tryf.prog w = .ok 81 w := by kernel_rfl
theorem err_is (w : World) : (FmtDoors.textMethod 79 "Error").run Tryf.prog w = .ok true w := by kernel_rfl
attribute [go_sem] err_call28 err_guard err_fmt err_fmtr err_op9 err_op9' err_op3 err_op3' err_ptr err_elem err_is

set_option maxRecDepth 100000 in
theorem errorf_any (F : Interp) (s : ByteArray) (n : Int) (a : Nat) (w : World) (hF : F.answers w.tape) (c0 : w.cell? ⟨a, 0, none⟩ = some (.iface 9 (.string s))) (c1 : w.cell? ⟨a, 1, none⟩ = some (.iface 3 (.int .i64 n))) :
    Calls Tryf.prog 12 #[.string ⟨#[37, 115, 32, 105, 115, 32, 110, 111, 116, 32, 98, 101, 108, 111, 119, 32, 50, 94, 37, 100]⟩, .slice (some ⟨a, 0, none⟩) 2 2] w fun e w' => (∃ p, e = .returned (.iface 79 (.pointer (some p)))) ∧ Below w.heap.size w w' := by
  have hF' : ∀ i name reading k range, w.tape i (.extern (word name reading k) range) = F name reading k := hF
  clear hF
  go_enter Tryf.func12, Tryf.ntmps12
  go_wp2
  go_ret
  exact ⟨⟨_, rfl⟩, ((Below.refl _ w).alloc (Nat.le_refl _) _).drew⟩
end Go.Proofs.Qxb6608999aFmt
