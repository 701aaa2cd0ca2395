/-
  allowedInText (5) and the law's own model (6), each by a contract: both answer 'okB r'.
-/
import Derived.Test.YbulkctcgRows
import Derived.WalkKit
import Derived.WalkSpells
namespace Go.Proofs.Ybulkctcg
open Go.RowKit

theorem and_mask (a : Nat) : a &&& 65534 = 65534 ↔ 65534 ≤ a % 65536 := by
  have h1 : (a &&& 65534) / 2 = a / 2 % 32768 := by
    rw [Nat.and_div_two]
    exact Nat.and_two_pow_sub_one_eq_mod (a / 2) 15
  have h2 : (a &&& 65534) % 2 ≠ 1 := fun h => by
    have := (Nat.and_mod_two_eq_one.1 h).2
    simp at this
  omega

theorem bits_mask_i32 (r : Int) (h0 : 0 ≤ r) (h1 : r ≤ 2147483647) : (bits .and .i32 r 65534 == 65534) = decide (65534 ≤ r % 65536) := by
  obtain ⟨a, rfl⟩ := Int.eq_ofNat_of_zero_le h0
  have e : bits .and .i32 (a : Int) (65534 : Nat) = ((a &&& 65534 : Nat) : Int) := (bits_nat .i32 31 (by decide) wraps_i32 a 65534 (by omega) (by decide)).1
  have e' : bits .and .i32 (a : Int) 65534 = ((a &&& 65534 : Nat) : Int) := e
  rw [e', Bool.eq_iff_iff, beq_iff_eq, decide_eq_true_iff]
  have := and_mask a
  omega

/-- What both functions answer. -/
def okB (r : Int) : Bool := decide (¬ (r < 32 ∨ (127 ≤ r ∧ r ≤ 159) ∨ (64976 ≤ r ∧ r ≤ 65007) ∨ 65534 ≤ r % 65536))
theorem okB_true {r : Int} (h : ¬ (r < 32 ∨ (127 ≤ r ∧ r ≤ 159) ∨ (64976 ≤ r ∧ r ≤ 65007) ∨ 65534 ≤ r % 65536)) : okB r = true := decide_eq_true h
theorem okB_false {r : Int} (h : r < 32 ∨ (127 ≤ r ∧ r ≤ 159) ∨ (64976 ≤ r ∧ r ≤ 65007) ∨ 65534 ≤ r % 65536) : okB r = false := decide_eq_false (by omega)
theorem ret_bool {a b : Bool} (h : a = b) : Ending.returned (.bool a) = .returned (.bool b) := by rw [h]

set_option maxHeartbeats 400000 in
theorem allowed_any (r : Int) (h0 : -2147483648 ≤ r) (h1 : r ≤ 2147483647) (w : World) : Calls Yba.prog 5 #[.int .i32 r] w fun e w' => e = .returned (.bool (okB r)) ∧ w = w' := by
  by_cases c1 : r < 32
  · have HB : Hid (okB r = false) := okB_false (Or.inl c1)
    go_enter Yba.func5, Yba.ntmps5
    go_wp2
    go_ret
    exact ⟨ret_bool HB.out.symm, rfl⟩
  have d1 : decide (r < 32) = false := decide_eq_false c1
  have hbm := bits_mask_i32 r (by omega) h1
  by_cases c2 : 127 ≤ r
  · by_cases c3 : r ≤ 159
    · have HB : Hid (okB r = false) := okB_false (by omega)
      clear hbm
      go_enter Yba.func5, Yba.ntmps5
      go_wp2
      go_ret
      exact ⟨ret_bool HB.out.symm, rfl⟩
    have d3 : decide (r ≤ 159) = false := decide_eq_false c3
    by_cases c4 : 64976 ≤ r
    · by_cases c5 : r ≤ 65007
      · have HB : Hid (okB r = false) := okB_false (by omega)
        clear hbm
        go_enter Yba.func5, Yba.ntmps5
        go_wp2
        go_ret
        exact ⟨ret_bool HB.out.symm, rfl⟩
      · have d5 : decide (r ≤ 65007) = false := decide_eq_false c5
        have HB : Hid (okB r = !decide (65534 ≤ r % 65536)) := by
          by_cases c6 : 65534 ≤ r % 65536
          · rw [decide_eq_true c6]; exact okB_false (by omega)
          · rw [decide_eq_false c6]; exact okB_true (by omega)
        go_enter Yba.func5, Yba.ntmps5
        go_wp2
        go_ret
        exact ⟨ret_bool HB.out.symm, rfl⟩
    · have d4 : decide (64976 ≤ r) = false := decide_eq_false c4
      have HB : Hid (okB r = !decide (65534 ≤ r % 65536)) := by
        by_cases c6 : 65534 ≤ r % 65536
        · rw [decide_eq_true c6]; exact okB_false (by omega)
        · rw [decide_eq_false c6]; exact okB_true (by omega)
      go_enter Yba.func5, Yba.ntmps5
      go_wp2
      go_ret
      exact ⟨ret_bool HB.out.symm, rfl⟩
  · have d2 : decide (127 ≤ r) = false := decide_eq_false c2
    have d4 : decide (64976 ≤ r) = false := decide_eq_false (by omega)
    have HB : Hid (okB r = !decide (65534 ≤ r % 65536)) := by
      by_cases c6 : 65534 ≤ r % 65536
      · rw [decide_eq_true c6]; exact okB_false (by omega)
      · rw [decide_eq_false c6]; exact okB_true (by omega)
    go_enter Yba.func5, Yba.ntmps5
    go_wp2
    go_ret
    exact ⟨ret_bool HB.out.symm, rfl⟩

set_option maxHeartbeats 400000 in
theorem model_any (r : Int) (h0 : -2147483648 ≤ r) (h1 : r ≤ 2147483647) (w : World) : Calls Yba.prog 6 #[.int .i32 r] w fun e w' => e = .returned (.bool (okB r)) ∧ w = w' := by
  by_cases c1 : r < 32
  · have HB : Hid (okB r = false) := okB_false (Or.inl c1)
    go_enter Yba.func6, Yba.ntmps6
    go_wp2
    go_ret
    exact ⟨ret_bool HB.out.symm, rfl⟩
  have d1 : decide (r < 32) = false := decide_eq_false c1
  have c0 : 0 ≤ r := by omega
  by_cases c6 : 65534 ≤ r % 65536
  · have d6 : decide (65534 ≤ r % 65536) = true := decide_eq_true c6
    have HB : Hid (okB r = false) := okB_false (by omega)
    clear c1
    go_enter Yba.func6, Yba.ntmps6
    go_wp2
    all_goals
      go_ret
      exact ⟨ret_bool HB.out.symm, rfl⟩
  · have d6 : decide (65534 ≤ r % 65536) = false := decide_eq_false c6
    by_cases c2 : 127 ≤ r ∧ r ≤ 159
    · have HB : Hid (okB r = false) := okB_false (by omega)
      obtain ⟨c3, c4⟩ := c2
      go_enter Yba.func6, Yba.ntmps6
      go_wp2
      go_ret
      exact ⟨ret_bool HB.out.symm, rfl⟩
    · by_cases c3 : 64976 ≤ r ∧ r ≤ 65007
      · have HB : Hid (okB r = false) := okB_false (by omega)
        obtain ⟨c5, c4⟩ := c3
        have d3 : decide (r ≤ 159) = false := decide_eq_false (by omega)
        go_enter Yba.func6, Yba.ntmps6
        go_wp2
        go_ret
        exact ⟨ret_bool HB.out.symm, rfl⟩
      · have HB : Hid (okB r = true) := okB_true (by omega)
        have HC2 : Hid (¬ (127 ≤ r ∧ r ≤ 159)) := c2
        have HC3 : Hid (¬ (64976 ≤ r ∧ r ≤ 65007)) := c3
        clear c2 c3
        go_enter Yba.func6, Yba.ntmps6
        go_wp2
        all_goals first | (have h2 := HC2.out; have h3 := HC3.out; exfalso; omega) | (go_ret; exact ⟨ret_bool HB.out.symm, rfl⟩)

set_option maxHeartbeats 400000 in
theorem law_model (r : Int) (h0 : -2147483648 ≤ r) (h1 : r ≤ 2147483647) (w : World) : Calls Yba.prog 3 #[.int .i32 r] w fun e w' => e = .returned (.bool true) ∧ Grown w w' := by
  go_enter Yba.func3, Yba.ntmps3
  go_wp2_with (first | (go_at_call 5; refine (allowed_any r h0 h1 _).mono ?_; rintro e w' ⟨rfl, rfl⟩) | (go_at_call 6; refine (model_any r h0 h1 _).mono ?_; rintro e w' ⟨rfl, rfl⟩))
  go_ret
  exact ⟨rfl, Grown.refl _⟩

end Go.Proofs.Ybulkctcg
