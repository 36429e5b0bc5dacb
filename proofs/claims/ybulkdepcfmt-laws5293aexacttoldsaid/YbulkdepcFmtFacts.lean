import Derived.Test.YbulkdepcFmtRows
import Derived.Stop.CallBack
import Derived.Stop.IfaceNil
import Derived.WalkKit
import Derived.WalkSpells
import Derived.ProofKit
namespace Go.Proofs.YbulkdepcFmt
open Go.RowKit Go.Extern.Stop Go.Stop Go.Extern

/-! Closed facts of this program for the walk over the stopped fmt.errorf: each by the kernel. -/
theorem call8 (args : Array Value) (w : World) : (callFunc 8 args).run Ybaf.prog w = ((FmtStop.errorf #[9, 31] #[23] args).run Ybaf.prog w).andThen fun v w' => .ok (.value v) w' :=
  run_callFunc_extern Ybaf.func8 (by kernel_rfl) (by kernel_rfl) (by kernel_rfl) (by kernel_rfl) args w
theorem guard0 (name : String) (w : World) : (FmtStop.guard name).run Ybaf.prog w = .ok () w := by kernel_rfl
theorem op3_100w (name : String) (x : Int) (w : World) : (FmtStop.operand name true 100 false (.iface 3 (.int .i64 x))).run Ybaf.prog w = .ok ([5, 3, 0, 0, 0, 0, 0, 0, 0, 105, 110, 116], Go.Extern.Stop.digits 8 (x % 2 ^ 64).toNat) w := by kernel_rfl
theorem ptr34 (w : World) : (FmtStop.ptrTo "errors.errorString").run Ybaf.prog w = .ok 34 w := by kernel_rfl
theorem elem34 (w : World) : (elemOf 34).run Ybaf.prog w = .ok 36 w := by kernel_rfl
theorem isError34 (w : World) : (FmtDoors.textMethod 34 "Error").run Ybaf.prog w = .ok true w := by kernel_rfl
theorem fmt0r (w : World) : (FmtDoors.printed ⟨#[116, 101, 114, 109, 32, 111, 102, 32, 37, 100, 32, 121, 101, 97, 114, 115, 44, 32, 37, 100, 32, 109, 111, 110, 116, 104, 115, 32, 97, 110, 100, 32, 37, 100, 32, 100, 97, 121, 115, 32, 104, 97, 115, 32, 97, 32, 110, 101, 103, 97, 116, 105, 118, 101, 32, 99, 111, 117, 110, 116]⟩ 3).run Ybaf.prog w = .ok [(0, 100, false), (1, 100, false), (2, 100, false)] w := by kernel_rfl
theorem fmt0 : FmtStop.printed? ⟨#[116, 101, 114, 109, 32, 111, 102, 32, 37, 100, 32, 121, 101, 97, 114, 115, 44, 32, 37, 100, 32, 109, 111, 110, 116, 104, 115, 32, 97, 110, 100, 32, 37, 100, 32, 100, 97, 121, 115, 32, 104, 97, 115, 32, 97, 32, 110, 101, 103, 97, 116, 105, 118, 101, 32, 99, 111, 117, 110, 116]⟩ 3 = some [(0, 100, false), (1, 100, false), (2, 100, false)] := by kernel_rfl
theorem fmt1r (w : World) : (FmtDoors.printed ⟨#[116, 101, 114, 109, 32, 105, 115, 32, 108, 111, 110, 103, 101, 114, 32, 116, 104, 97, 110, 32, 37, 100, 32, 100, 97, 121, 115]⟩ 1).run Ybaf.prog w = .ok [(0, 100, false)] w := by kernel_rfl
theorem fmt1 : FmtStop.printed? ⟨#[116, 101, 114, 109, 32, 105, 115, 32, 108, 111, 110, 103, 101, 114, 32, 116, 104, 97, 110, 32, 37, 100, 32, 100, 97, 121, 115]⟩ 1 = some [(0, 100, false)] := by kernel_rfl
theorem fmt2r (w : World) : (FmtDoors.printed ⟨#[116, 101, 114, 109, 32, 111, 102, 32, 37, 100, 32, 100, 97, 121, 115, 32, 105, 115, 32, 110, 111, 116, 32, 102, 114, 111, 109, 32, 49, 32, 116, 111, 32, 37, 100, 32, 100, 97, 121, 115]⟩ 2).run Ybaf.prog w = .ok [(0, 100, false), (1, 100, false)] w := by kernel_rfl
theorem fmt2 : FmtStop.printed? ⟨#[116, 101, 114, 109, 32, 111, 102, 32, 37, 100, 32, 100, 97, 121, 115, 32, 105, 115, 32, 110, 111, 116, 32, 102, 114, 111, 109, 32, 49, 32, 116, 111, 32, 37, 100, 32, 100, 97, 121, 115]⟩ 2 = some [(0, 100, false), (1, 100, false)] := by kernel_rfl
attribute [local go_sem] call8 guard0 op3_100w ptr34 elem34 isError34 fmt0r fmt0 fmt1r fmt1 fmt2r fmt2

set_option maxHeartbeats 400000 in
theorem errorf0 (F : Interp) (x0 x1 x2 : Int) (blk : Nat) (w : World) (hF : F.answers w.tape) (h0 : w.cell? ⟨blk, 0, none⟩ = some (.iface 3 (.int .i64 x0))) (h1 : w.cell? ⟨blk, 1, none⟩ = some (.iface 3 (.int .i64 x1))) (h2 : w.cell? ⟨blk, 2, none⟩ = some (.iface 3 (.int .i64 x2))) :
    Calls Ybaf.prog 6 #[.string ⟨#[116, 101, 114, 109, 32, 111, 102, 32, 37, 100, 32, 121, 101, 97, 114, 115, 44, 32, 37, 100, 32, 109, 111, 110, 116, 104, 115, 32, 97, 110, 100, 32, 37, 100, 32, 100, 97, 121, 115, 32, 104, 97, 115, 32, 97, 32, 110, 101, 103, 97, 116, 105, 118, 101, 32, 99, 111, 117, 110, 116]⟩, .slice (some ⟨blk, 0, none⟩) 3 3] w fun e w' =>
      ∃ a, e = .returned (.iface 34 (.pointer (some a))) ∧ Below w.heap.size w w' := by
  have hF' := answers_open hF
  go_enter Ybaf.func6, Ybaf.ntmps6
  go_wp2
  go_ret
  exact ⟨_, rfl, ((Below.refl _ _).alloc (Nat.le_refl _) _).drew⟩

set_option maxHeartbeats 400000 in
theorem errorf1 (F : Interp) (x0 : Int) (blk : Nat) (w : World) (hF : F.answers w.tape) (h0 : w.cell? ⟨blk, 0, none⟩ = some (.iface 3 (.int .i64 x0))) :
    Calls Ybaf.prog 6 #[.string ⟨#[116, 101, 114, 109, 32, 105, 115, 32, 108, 111, 110, 103, 101, 114, 32, 116, 104, 97, 110, 32, 37, 100, 32, 100, 97, 121, 115]⟩, .slice (some ⟨blk, 0, none⟩) 1 1] w fun e w' =>
      ∃ a, e = .returned (.iface 34 (.pointer (some a))) ∧ Below w.heap.size w w' := by
  have hF' := answers_open hF
  go_enter Ybaf.func6, Ybaf.ntmps6
  go_wp2
  go_ret
  exact ⟨_, rfl, ((Below.refl _ _).alloc (Nat.le_refl _) _).drew⟩

set_option maxHeartbeats 400000 in
theorem errorf2 (F : Interp) (x0 x1 : Int) (blk : Nat) (w : World) (hF : F.answers w.tape) (h0 : w.cell? ⟨blk, 0, none⟩ = some (.iface 3 (.int .i64 x0))) (h1 : w.cell? ⟨blk, 1, none⟩ = some (.iface 3 (.int .i64 x1))) :
    Calls Ybaf.prog 6 #[.string ⟨#[116, 101, 114, 109, 32, 111, 102, 32, 37, 100, 32, 100, 97, 121, 115, 32, 105, 115, 32, 110, 111, 116, 32, 102, 114, 111, 109, 32, 49, 32, 116, 111, 32, 37, 100, 32, 100, 97, 121, 115]⟩, .slice (some ⟨blk, 0, none⟩) 2 2] w fun e w' =>
      ∃ a, e = .returned (.iface 34 (.pointer (some a))) ∧ Below w.heap.size w w' := by
  have hF' := answers_open hF
  go_enter Ybaf.func6, Ybaf.ntmps6
  go_wp2
  go_ret
  exact ⟨_, rfl, ((Below.refl _ _).alloc (Nat.le_refl _) _).drew⟩
end Go.Proofs.YbulkdepcFmt
