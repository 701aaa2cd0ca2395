/-
  LawS4741AExact (3).
-/
import Derived.Test.YbulkctdwMulAdd
namespace Go.Proofs.Ybulkctdw
open Go.RowKit

theorem mul10_at (x hi lo : Int) (h0 : 0 ≤ x) (h1 : x ≤ 18446744073709551615) (hh : hi = x * 10 / 18446744073709551616) (hl : lo = x * 10 % 18446744073709551616) (w : World) :
    Calls Yba.prog 6 #[.int .u64 x, .int .u64 10] w fun e w' => e = .returned (.tuple #[.int .u64 hi, .int .u64 lo]) ∧ w = w' := by
  rw [hh, hl]; exact mul10 x h0 h1 w
theorem add64_at (x y s c : Int) (hx : 0 ≤ x) (hy : 0 ≤ y) (hs : s = (x + y) % 18446744073709551616) (hc : c = (x + y) / 18446744073709551616) (w : World) :
    (callFunc 7 #[.int .u64 x, .int .u64 y, .int .u64 0]).run Yba.prog w = .ok (.value (.tuple #[.int .u64 s, .int .u64 c])) w := by
  rw [hs, hc]; exact add64 x y hx hy w

set_option maxHeartbeats 400000 in
/-- d ≤ most, it fits. -/
theorem exact_fits (n d m : Int) (h0 : 0 ≤ n) (h1 : 0 ≤ d) (h2 : d ≤ m) (h3 : m ≤ 18446744073709551615) (h4 : n ≤ (m - d) / 10) (w : World) :
    Calls Yba.prog 3 #[.int .u64 n, .int .u64 d, .int .u64 m] w fun e w' => e = .returned (.bool true) ∧ Grown w w' := by
  have hs := fun w => shift_yes n d m h0 h1 h2 h3 h4 w
  have HS : Hid (∀ w, Calls Yba.prog 5 #[.int .u64 n, .int .u64 d, .int .u64 m] w fun e w' => e = .returned (.tuple #[.int .u64 (n * 10 + d), .bool true]) ∧ w = w') := hs
  have HM : Hid (∀ w, Calls Yba.prog 6 #[.int .u64 n, .int .u64 10] w fun e w' => e = .returned (.tuple #[.int .u64 0, .int .u64 (n * 10)]) ∧ w = w') :=
    fun w => mul10_at n 0 (n * 10) h0 (by omega) (by omega) (by omega) w
  have ha := add64_at (n * 10) d (n * 10 + d) 0 (by omega) h1 (by omega) (by omega)
  have b1 : n * 10 + d ≤ m := by omega
  clear hs h4
  go_enter Yba.func3, Yba.ntmps3
  go_wp2_with (first | (go_at_call 5; refine (HS.out _).mono ?_; rintro e w' ⟨rfl, rfl⟩) | (go_at_call 6; refine (HM.out _).mono ?_; rintro e w' ⟨rfl, rfl⟩))
  go_ret
  exact ⟨rfl, Grown.refl _⟩

set_option maxHeartbeats 400000 in
/-- d ≤ most, it does not fit. -/
theorem exact_over (n d m : Int) (h0 : 0 ≤ n) (hn : n ≤ 18446744073709551615) (h1 : 0 ≤ d) (h2 : d ≤ m) (h3 : m ≤ 18446744073709551615) (h4 : (m - d) / 10 < n) (w : World) :
    Calls Yba.prog 3 #[.int .u64 n, .int .u64 d, .int .u64 m] w fun e w' => e = .returned (.bool true) ∧ Grown w w' := by
  have HS : Hid (∀ w, Calls Yba.prog 5 #[.int .u64 n, .int .u64 d, .int .u64 m] w fun e w' => e = .returned (.tuple #[.int .u64 0, .bool false]) ∧ w = w') :=
    fun w => shift_no n d m h1 h2 h3 h4 w
  obtain ⟨hi, hhi⟩ : ∃ hi, hi = n * 10 / 18446744073709551616 := ⟨_, rfl⟩
  obtain ⟨lo, hlo⟩ : ∃ lo, lo = n * 10 % 18446744073709551616 := ⟨_, rfl⟩
  obtain ⟨s, hs⟩ : ∃ s, s = (lo + d) % 18446744073709551616 := ⟨_, rfl⟩
  obtain ⟨c, hc⟩ : ∃ c, c = (lo + d) / 18446744073709551616 := ⟨_, rfl⟩
  have HM : Hid (∀ w, Calls Yba.prog 6 #[.int .u64 n, .int .u64 10] w fun e w' => e = .returned (.tuple #[.int .u64 hi, .int .u64 lo]) ∧ w = w') :=
    fun w => mul10_at n hi lo h0 hn hhi hlo w
  have ha := add64_at lo d s c (by omega) h1 hs hc
  have b1 : 0 ≤ hi := by omega
  have b2 : hi ≤ 9 := by omega
  have b3 : 0 ≤ c := by omega
  have b4 : c ≤ 1 := by omega
  by_cases hz : hi + c = 0
  · have e1 : (hi + c == 0) = true := beq_iff_eq.2 hz
    have e2 : decide (s ≤ m) = false := decide_eq_false (by omega)
    clear hhi hlo hs hc h4 hz
    go_enter Yba.func3, Yba.ntmps3
    go_wp2_with (first | (go_at_call 5; refine (HS.out _).mono ?_; rintro e w' ⟨rfl, rfl⟩) | (go_at_call 6; refine (HM.out _).mono ?_; rintro e w' ⟨rfl, rfl⟩))
    go_ret
    exact ⟨rfl, Grown.refl _⟩
  · have e1 : (hi + c == 0) = false := beq_eq_false_iff_ne.2 hz
    clear hhi hlo hs hc h4 hz
    go_enter Yba.func3, Yba.ntmps3
    go_wp2_with (first | (go_at_call 5; refine (HS.out _).mono ?_; rintro e w' ⟨rfl, rfl⟩) | (go_at_call 6; refine (HM.out _).mono ?_; rintro e w' ⟨rfl, rfl⟩))
    go_ret
    exact ⟨rfl, Grown.refl _⟩

set_option maxHeartbeats 400000 in
/-- d > most: only the shape of the answer is asked. -/
theorem exact_wraps (n d m : Int) (h2 : m < d) (w : World) :
    Calls Yba.prog 3 #[.int .u64 n, .int .u64 d, .int .u64 m] w fun e w' => e = .returned (.bool true) ∧ Grown w w' := by
  go_enter Yba.func3, Yba.ntmps3
  go_wp2_with (go_at_call 5; refine (shift_shape _ _ _ _).mono ?_; rintro e w' ⟨he, rfl⟩; rcases he with rfl | rfl)
  all_goals
    go_ret
    exact ⟨rfl, Grown.refl _⟩

end Go.Proofs.Ybulkctdw
