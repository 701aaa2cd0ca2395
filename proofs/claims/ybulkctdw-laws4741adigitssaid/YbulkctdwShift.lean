/-
  decimal.shift (5), by contracts.
-/
import Derived.Test.YbulkctdwRows
import Derived.WalkKit
import Derived.WalkSpells
namespace Go.Proofs.Ybulkctdw
open Go.RowKit

set_option maxHeartbeats 400000 in
/-- d ≤ most, it fits. -/
theorem shift_yes (n d m : Int) (h0 : 0 ≤ n) (h1 : 0 ≤ d) (h2 : d ≤ m) (h3 : m ≤ 18446744073709551615) (h4 : n ≤ (m - d) / 10) (w : World) :
    Calls Yba.prog 5 #[.int .u64 n, .int .u64 d, .int .u64 m] w fun e w' => e = .returned (.tuple #[.int .u64 (n * 10 + d), .bool true]) ∧ w = w' := by
  have hd : decide ((m - d) / 10 < n) = false := decide_eq_false (by omega)
  go_enter Yba.func5, Yba.ntmps5
  go_wp2
  go_ret2
  exact ⟨rfl, rfl⟩

set_option maxHeartbeats 400000 in
/-- d ≤ most, it does not fit. -/
theorem shift_no (n d m : Int) (h1 : 0 ≤ d) (h2 : d ≤ m) (h3 : m ≤ 18446744073709551615) (h4 : (m - d) / 10 < n) (w : World) :
    Calls Yba.prog 5 #[.int .u64 n, .int .u64 d, .int .u64 m] w fun e w' => e = .returned (.tuple #[.int .u64 0, .bool false]) ∧ w = w' := by
  go_enter Yba.func5, Yba.ntmps5
  go_wp2
  go_ret2
  exact ⟨rfl, rfl⟩

set_option maxHeartbeats 400000 in
/-- Whatever the numbers: refused with 0, or accepted with n*10+d as Go reckons it. -/
theorem shift_shape (n d m : Int) (w : World) :
    Calls Yba.prog 5 #[.int .u64 n, .int .u64 d, .int .u64 m] w fun e w' =>
      (e = .returned (.tuple #[.int .u64 0, .bool false]) ∨ e = .returned (.tuple #[.int .u64 (IntKind.u64.wrap (IntKind.u64.wrap (n * 10) + d)), .bool true])) ∧ w = w' := by
  go_enter Yba.func5, Yba.ntmps5
  go_wp2
  · go_ret2
    exact ⟨Or.inl rfl, rfl⟩
  · go_ret2
    exact ⟨Or.inr rfl, rfl⟩

end Go.Proofs.Ybulkctdw
