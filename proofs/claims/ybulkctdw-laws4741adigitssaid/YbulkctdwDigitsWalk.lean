/-
  LawS4741ADigits (4).
-/
import Derived.Test.YbulkctdwShift
namespace Go.Proofs.Ybulkctdw
open Go.RowKit

set_option maxHeartbeats 400000 in
theorem digits_any (a0 : Option Addr) (l cp : Nat) (zs : List Int) (hl : l ≤ 1024) (hz : ∀ j : Nat, 0 ≤ zs[j]?.getD 0 ∧ zs[j]?.getD 0 ≤ 255) (w : World)
    (hx : ∀ j, j < l → ∃ b off, a0 = some ⟨b, off, none⟩ ∧ w.cell? ⟨b, off + j, none⟩ = some (.int .u8 (zs[j]?.getD 0))) :
    Calls Yba.prog 4 #[.slice a0 l cp] w fun e w' => e = .returned (.bool true) ∧ Below w.heap.size w w' := by
  have d1 : decide ((1024 : Int) < (l : Int)) = false := decide_eq_false (by omega)
  have HX : Hid (∀ j, j < l → ∃ b off, a0 = some ⟨b, off, none⟩ ∧ w.cell? ⟨b, off + j, none⟩ = some (.int .u8 (zs[j]?.getD 0))) := hx
  have HZ : Hid (∀ j : Nat, 0 ≤ zs[j]?.getD 0 ∧ zs[j]?.getD 0 ≤ 255) := hz
  clear hx hz
  go_enter Yba.func4, Yba.ntmps4
  go_wp2
  go_loop [3, 4, 6] (fun n m i => ∃ (k : Nat) (M : Int), k ≤ l ∧ i = .int .i64 k ∧ 0 ≤ M ∧ M ≤ 18446744073709551615 ∧ n = .int .u64 M ∧ m = .int .u64 M) (fun _ _ i => l - (intOf i).toNat)
  case atStart => exact ⟨0, 0, Nat.zero_le _, rfl, by omega, by omega, rfl, rfl⟩
  case round =>
    obtain ⟨k, M, hk, rfl, hM0, hM1, rfl, rfl⟩ := hrel
    by_cases hlt : k < l
    · obtain ⟨b, off, ha, hc⟩ := HX.out k hlt
      have hzb := HZ.out k
      obtain ⟨z, hz⟩ : ∃ z, z = zs[k]?.getD 0 := ⟨_, rfl⟩
      rw [← hz] at hc hzb
      obtain ⟨hz0, hz1⟩ := hzb
      clear hz
      subst ha
      by_cases hM : M ≤ 1000000000000000000
      · go_wp2_with (go_at_call 5; refine (shift_yes _ _ _ (by omega) (by omega) (by omega) (by omega) (by omega) _).mono ?_; rintro e w' ⟨rfl, rfl⟩)
        go_round
        case rel => exact ⟨k + 1, M * 10 + z % 10, by omega, by go_num, by omega, by omega, by go_num, by go_num⟩
        case measure => simp [intOf]; omega
      · have dM : decide (M ≤ 1000000000000000000) = false := decide_eq_false hM
        go_wp2_with (go_at_call 5; refine (shift_shape _ _ _ _).mono ?_; rintro e w' ⟨he, rfl⟩; rcases he with rfl | rfl)
        all_goals
          go_ret
          exact ⟨rfl, Below.refl _ _⟩
    · go_wp2
      go_ret
      exact ⟨rfl, Below.refl _ _⟩

end Go.Proofs.Ybulkctdw
