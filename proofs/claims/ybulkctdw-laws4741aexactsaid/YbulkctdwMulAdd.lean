/-
  math/bits.Mul64 (6) at y = 10, walked; math/bits.Add64 (7) with carry 0: the model's own entry.
-/
import Derived.Test.YbulkctdwShift
import Derived.Laws.Bits64b
import Derived.Laws.Externs
namespace Go.Proofs.Ybulkctdw
open Go.RowKit

theorem mask32 (x : Int) (h0 : 0 ≤ x) (h1 : x ≤ 18446744073709551615) : bits .and .u64 x 4294967295 = x % 4294967296 := by
  obtain ⟨a, rfl⟩ := Int.eq_ofNat_of_zero_le h0
  have h := bits_and_u64_nat a 4294967295 (by omega) (by omega)
  have e : a &&& 4294967295 = a % 4294967296 := Nat.and_two_pow_sub_one_eq_mod a 32
  rw [e] at h
  exact h.trans (by omega)

theorem ret_two {a b c d : Int} (h : a = b) (k : c = d) : Ending.returned (.tuple #[.int .u64 a, .int .u64 c]) = .returned (.tuple #[.int .u64 b, .int .u64 d]) := by rw [h, k]

set_option maxHeartbeats 400000 in
theorem mul10 (x : Int) (h0 : 0 ≤ x) (h1 : x ≤ 18446744073709551615) (w : World) :
    Calls Yba.prog 6 #[.int .u64 x, .int .u64 10] w fun e w' => e = .returned (.tuple #[.int .u64 (x * 10 / 18446744073709551616), .int .u64 (x * 10 % 18446744073709551616)]) ∧ w = w' := by
  have m1 := mask32 x h0 h1
  have m2 := mask32 10 (by omega) (by omega)
  have m3 := mask32 (x / 4294967296 * 10 + x % 4294967296 * 10 / 4294967296) (by omega) (by omega)
  go_enter Yba.func6, Yba.ntmps6
  go_wp2
  go_ret2
  exact ⟨ret_two (by omega) (IntKind.wrap_u64 _), rfl⟩

theorem add64 (x y : Int) (hx : 0 ≤ x) (hy : 0 ≤ y) (w : World) : (callFunc 7 #[.int .u64 x, .int .u64 y, .int .u64 0]).run Yba.prog w =
    .ok (.value (.tuple #[.int .u64 ((x + y) % 18446744073709551616), .int .u64 ((x + y) / 18446744073709551616)])) w := by
  rw [run_callFunc_extern Yba.func7 (by kernel_rfl) (by kernel_rfl) (by kernel_rfl) (e := add64Entry) (by kernel_rfl), run_add64 x y 0 hx hy (Int.le_refl 0) (by decide)]
  simp only [Result.andThen, Int.add_zero]

end Go.Proofs.Ybulkctdw
