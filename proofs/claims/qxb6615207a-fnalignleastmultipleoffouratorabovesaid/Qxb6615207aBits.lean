/-
  align: '(n + 3) &^ 3' and 'r & 3' on int, as plain arithmetic.
-/
import Derived.Test.Qxb6615207aRows
import Derived.WalkKit
import Derived.ProofKit
import Derived.Laws.Bits128
namespace Go.Proofs.Qxb6615207a
open Go.RowKit

theorem i64_and3 (n : Int) : bits .and .i64 n 3 = n % 4 := by
  have h3 : (BitVec.ofInt 64 3).toNat = 2 ^ 2 - 1 := by decide
  have key : (BitVec.ofInt 64 n &&& BitVec.ofInt 64 3).toNat = (n % ((2 ^ 64 : Nat) : Int)).toNat % 2 ^ 2 := by
    rw [BitVec.toNat_and, BitVec.toNat_ofInt, h3, Nat.and_two_pow_sub_one_eq_mod]
  show IntKind.i64.wrap ((BitVec.ofInt 64 n &&& BitVec.ofInt 64 3).toNat : Nat) = n % 4
  rw [key, IntKind.wrap_i64]
  omega

theorem nat_andNot3 (x : Nat) (h : x < 2 ^ 64) : x &&& (2 ^ 64 - (3 + 1)) = x / 4 * 4 := by
  have e : x / 4 * 4 = (x >>> 2) <<< 2 := by rw [Nat.shiftRight_eq_div_pow, Nat.shiftLeft_eq]
  rw [e]
  apply Nat.eq_of_testBit_eq
  intro i
  rw [Nat.testBit_and, Nat.testBit_two_pow_sub_succ (by decide), Nat.testBit_shiftLeft, Nat.testBit_shiftRight]
  have h3 : Nat.testBit 3 i = decide (i < 2) := Nat.testBit_two_pow_sub_one 2 i
  rw [h3]
  by_cases hi : i < 2
  · have : ¬ i ≥ 2 := by omega
    simp [hi, this]
  · have h2 : i ≥ 2 := by omega
    rw [show 2 + (i - 2) = i by omega]
    by_cases h64 : i < 64
    · simp [hi, h2, h64]
    · have : x.testBit i = false := Nat.testBit_lt_two_pow (Nat.lt_of_lt_of_le h (Nat.pow_le_pow_right (by omega) (by omega)))
      simp [this]

theorem i64_andNot3 (n : Int) (h1 : -9223372036854775808 ≤ n) (h2 : n ≤ 9223372036854775807) : bits .andNot .i64 n 3 = n / 4 * 4 := by
  have h3 : (~~~ BitVec.ofInt 64 3).toNat = 2 ^ 64 - (3 + 1) := by decide
  have key : (BitVec.ofInt 64 n &&& ~~~ BitVec.ofInt 64 3).toNat = (n % ((2 ^ 64 : Nat) : Int)).toNat / 4 * 4 := by
    rw [BitVec.toNat_and, h3, BitVec.toNat_ofInt, nat_andNot3 _ (by omega)]
  show IntKind.i64.wrap ((BitVec.ofInt 64 n &&& ~~~ BitVec.ofInt 64 3).toNat : Nat) = n / 4 * 4
  rw [key, IntKind.wrap_i64]
  omega

theorem i64_bounds {a : Int} (w : (Lit.int .i64 a).wf = true) : -9223372036854775808 ≤ a ∧ a ≤ 9223372036854775807 := by
  have e1 : IntKind.i64.min = -9223372036854775808 := rfl
  have e2 : IntKind.i64.max = 9223372036854775807 := rfl
  simpa [Lit.wf, e1, e2] using w

/-- align, within its own reach. -/
theorem align_any (n : Int) (h1 : -9223372036854775808 ≤ n) (h2 : n ≤ 9223372036854775804) (w : World) :
    Calls Try.prog 6 #[.int .i64 n] w fun e w' => e = .returned (.int .i64 ((n + 3) / 4 * 4)) ∧ w' = w := by
  have hb := i64_andNot3 (n + 3) (by omega) (by omega)
  go_enter Try.func6, Try.ntmps6
  go_wp2
  go_ret
  exact ⟨rfl, rfl⟩

theorem zalign_any (n : Int) (h1 : -9223372036854775808 ≤ n) (h2 : n ≤ 9223372036854775804) (w : World) :
    Calls Try.prog 5 #[.int .i64 n] w fun e w' => e = .returned (.int .i64 ((n + 3) / 4 * 4)) ∧ w' = w := by
  go_enter Try.func5, Try.ntmps5
  go_wp2_with (go_at_call 6; refine (align_any n h1 h2 _).mono ?_; rintro e w' ⟨rfl, rfl⟩)
  go_ret
  exact ⟨rfl, rfl⟩

end Go.Proofs.Qxb6615207a
