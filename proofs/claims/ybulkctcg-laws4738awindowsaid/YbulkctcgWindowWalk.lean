/-
  LawS4738AWindow (4): twelve centres, one walk each.
-/
import Derived.Test.YbulkctcgRunes
namespace Go.Proofs.Ybulkctcg
open Go.RowKit

set_option maxHeartbeats 1000000 in
theorem law_window (n d : Int) (h0 : 0 ≤ n) (h1 : n ≤ 255) (h2 : -128 ≤ d) (h3 : d ≤ 127) (w : World) : Calls Yba.prog 4 #[.int .u8 n, .int .i8 d] w fun e w' => e = .returned (.bool true) ∧ Grown w w' := by
  have hm : n % 12 = 0 ∨ n % 12 = 1 ∨ n % 12 = 2 ∨ n % 12 = 3 ∨ n % 12 = 4 ∨ n % 12 = 5 ∨ n % 12 = 6 ∨ n % 12 = 7 ∨ n % 12 = 8 ∨ n % 12 = 9 ∨ n % 12 = 10 ∨ n % 12 = 11 := by omega
  rcases hm with hm | hm | hm | hm | hm | hm | hm | hm | hm | hm | hm | hm
  all_goals
    go_enter Yba.func4, Yba.ntmps4
    go_wp2_with (first | (go_at_call 5; refine (allowed_any _ (by omega) (by omega) _).mono ?_; rintro e w' ⟨rfl, rfl⟩) | (go_at_call 6; refine (model_any _ (by omega) (by omega) _).mono ?_; rintro e w' ⟨rfl, rfl⟩))
    go_ret
    exact ⟨rfl, by repeat (first | exact Grown.refl _ | apply Grown.drew | apply Grown.alloc)⟩

end Go.Proofs.Ybulkctcg
