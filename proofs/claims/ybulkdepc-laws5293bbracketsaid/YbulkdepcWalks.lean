import Derived.Test.YbulkdepcRows
import Derived.Test.YbulkdepcPlain
import Derived.WalkKit
import Derived.ProofKit
namespace Go.Proofs.Ybulkdepc
open Go.RowKit

theorem ret_int {k : IntKind} {a b : Int} (h : a = b) : Ending.returned (.int k a) = .returned (.int k b) := by rw [h]

/-- floorDiv(a, b), b from 1 to 146,097, |a| at most 2^41: the floor quotient; nothing is written. -/
theorem floorDiv_any (a b : Int) (w : World) (hb1 : 1 ≤ b) (hb2 : b ≤ 146097) (ha1 : -2199023255552 ≤ a) (ha2 : a ≤ 2199023255552) :
    Calls Yba.prog 6 #[.int .i64 a, .int .i64 b] w fun e w' => e = .returned (.int .i64 (a / b)) ∧ w' = w := by
  by_cases h : a < 0
  · have hq := floor_neg a b hb1 h
    have hbd := floor_bd a b hb1 ha1 ha2
    have HW : Hid ((a - b + 1).tdiv b = a / b) := hq
    clear hq
    go_enter Yba.func6, Yba.ntmps6
    go_wp2
    go_ret
    exact ⟨ret_int HW.out, rfl⟩
  · have hbd := floor_bd a b hb1 ha1 ha2
    go_enter Yba.func6, Yba.ntmps6
    go_wp2
    go_ret
    exact ⟨rfl, rfl⟩

set_option maxHeartbeats 400000 in
/-- zzs5293bmodel(a, b): truncate, one down where a is negative and leaves a remainder: the floor quotient too. -/
theorem model_any (a b : Int) (w : World) (hb1 : 1 ≤ b) (hb2 : b ≤ 146097) (ha1 : -2199023255552 ≤ a) (ha2 : a ≤ 2199023255552) :
    Calls Yba.prog 7 #[.int .i64 a, .int .i64 b] w fun e w' => e = .returned (.int .i64 (a / b)) ∧ w' = w := by
  have hbd := floor_bd a b hb1 ha1 ha2
  by_cases h : a < 0
  · by_cases hm : a.tmod b = 0
    · have HW : Hid (a.tdiv b = a / b) := floor_trunc_exact a b hb1 hm
      go_enter Yba.func7, Yba.ntmps7
      go_wp2
      go_ret
      exact ⟨ret_int HW.out, rfl⟩
    · have hq := floor_trunc_neg a b hb1 h hm
      have hqb : a.tdiv b ≤ 2199023255553 ∧ -2199023255553 ≤ a.tdiv b := by omega
      have HW : Hid (a.tdiv b - 1 = a / b) := hq
      clear hq
      have hne : (a.tmod b != 0) = true := by simpa using hm
      clear hm
      go_enter Yba.func7, Yba.ntmps7
      go_wp2
      go_ret
      exact ⟨ret_int HW.out, rfl⟩
  · go_enter Yba.func7, Yba.ntmps7
    go_wp2
    all_goals (go_ret; exact ⟨rfl, rfl⟩)
end Go.Proofs.Ybulkdepc
