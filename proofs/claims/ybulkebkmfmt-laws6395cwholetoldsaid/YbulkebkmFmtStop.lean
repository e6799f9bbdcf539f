import Derived.Test.YbulkebkmFmtUv
import Derived.Stop.CallBack
import Derived.Stop.IfaceNil
import GoSem.ClaimData
/-! fmt.Errorf (function 12) over the stop fmt.errorf (function 14): an error that is not nil. -/
namespace Go.Proofs.YbulkebkmFmt
open Go.RowKit Go.Extern.Stop Go.Stop Go.Extern

theorem call14 (args : Array Value) (w : World) : (callFunc 14 args).run Ybaf.prog w = ((FmtStop.errorf #[9, 52] #[28] args).run Ybaf.prog w).andThen fun v w' => .ok (.value v) w' :=
  run_callFunc_extern Ybaf.func14 (by kernel_rfl) (by kernel_rfl) (by kernel_rfl) (by kernel_rfl) args w
theorem guardF (name : String) (w : World) : (FmtStop.guard name).run Ybaf.prog w = .ok () w := by kernel_rfl
theorem fmt0 : FmtStop.printed? ⟨#[97, 32, 112, 97, 114, 101, 110, 116, 32, 111, 102, 32, 114, 101, 112, 108, 105, 99, 97, 32, 37, 100, 32, 111, 102, 32, 37, 100, 32, 110, 97, 109, 101, 100]⟩ 2 = some [(0, 100, false), (1, 100, false)] := by kernel_rfl
theorem fmt0r (w : World) : (FmtDoors.printed ⟨#[97, 32, 112, 97, 114, 101, 110, 116, 32, 111, 102, 32, 114, 101, 112, 108, 105, 99, 97, 32, 37, 100, 32, 111, 102, 32, 37, 100, 32, 110, 97, 109, 101, 100]⟩ 2).run Ybaf.prog w = .ok [(0, 100, false), (1, 100, false)] w := by kernel_rfl
def shape3 : List UInt8 := [5, 3, 0, 0, 0, 0, 0, 0, 0, 105, 110, 116]
def shape24 : List UInt8 := [9, 6, 0, 0, 0, 0, 0, 0, 0, 117, 105, 110, 116, 54, 52]
theorem op3 (name : String) (x : Int) (w : World) : (FmtStop.operand name true 100 false (.iface 3 (.int .i64 x))).run Ybaf.prog w = .ok (shape3, Go.Extern.Stop.digits 8 (x % 2 ^ 64).toNat) w := by kernel_rfl
theorem op24 (name : String) (x : Int) (w : World) : (FmtStop.operand name true 100 false (.iface 24 (.int .u64 x))).run Ybaf.prog w = .ok (shape24, Go.Extern.Stop.digits 8 (x % 2 ^ 64).toNat) w := by kernel_rfl
theorem ptr45 (w : World) : (FmtStop.ptrTo "errors.errorString").run Ybaf.prog w = .ok 45 w := by kernel_rfl
theorem elem45 (w : World) : (elemOf 45).run Ybaf.prog w = .ok 47 w := by kernel_rfl
theorem isError45 (w : World) : (FmtDoors.textMethod 45 "Error").run Ybaf.prog w = .ok true w := by kernel_rfl

attribute [local go_sem] call14 guardF fmt0 fmt0r op3 op24 ptr45 elem45 isError45
set_option maxHeartbeats 400000 in
theorem errorf_any (F : Interp) (b : Nat) (p n : Int) (w : World) (hF : F.answers w.tape) (h0 : w.cell? ⟨b, 0, none⟩ = some (.iface 24 (.int .u64 p))) (h1 : w.cell? ⟨b, 1, none⟩ = some (.iface 3 (.int .i64 n))) :
    Calls Ybaf.prog 12 #[.string ⟨#[97, 32, 112, 97, 114, 101, 110, 116, 32, 111, 102, 32, 114, 101, 112, 108, 105, 99, 97, 32, 37, 100, 32, 111, 102, 32, 37, 100, 32, 110, 97, 109, 101, 100]⟩, .slice (some ⟨b, 0, none⟩) 2 2] w fun e w' => ∃ x, e = .returned (.iface 45 x) ∧ Below w.heap.size w w' := by
  have hF' := hF
  unfold Interp.answers at hF'
  go_enter Ybaf.func12, Ybaf.ntmps12
  go_wp2
  go_ret
  exact ⟨_, rfl, ((Below.refl _ _).alloc (Nat.le_refl _) _).drew⟩
end Go.Proofs.YbulkebkmFmt
