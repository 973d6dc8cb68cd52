/-
  package time, as far as the road goes: Time{}.Add(d), After.
-/
import Derived.Test.Qxb6615209aRows
import Derived.WalkKit
import Derived.ProofKit
import Derived.Laws.BitsAllLaws
namespace Go.Proofs.Qxb6615209a
open Go.RowKit

theorem and_mask (n : Int) (h0 : 0 ≤ n) (h1 : n < 1073741824) : bits .and .u64 n 1073741823 = n := by
  rw [u64_and n 1073741823 h0 (by omega) (by omega) (by omega)]
  have : n.toNat &&& (1073741823 : Int).toNat = n.toNat % 2 ^ 30 := Nat.and_two_pow_sub_one_eq_mod n.toNat 30
  rw [this]; omega

theorem and_mono (n : Int) (h0 : 0 ≤ n) (h1 : n < 1073741824) : bits .and .u64 n 9223372036854775808 = 0 := by
  rw [u64_and n 9223372036854775808 h0 (by omega) (by omega) (by omega)]
  have : n.toNat &&& (9223372036854775808 : Int).toNat = 0 := by
    apply Nat.eq_of_testBit_eq
    intro i
    rw [Nat.testBit_and, Nat.zero_testBit]
    have e : (9223372036854775808 : Int).toNat = 2 ^ 63 := by decide
    rw [e, Nat.testBit_two_pow]
    by_cases hi : 63 = i
    · subst hi
      have : n.toNat.testBit 63 = false := Nat.testBit_lt_two_pow (by omega)
      rw [this]; rfl
    · simp [hi]
  rw [this]; rfl

theorem nsec_any (b o : Nat) (wall : Int) (w : World) (h0 : 0 ≤ wall) (h1 : wall < 1073741824) (hc : w.cell? ⟨b, o, none⟩ = some (.int .u64 wall)) :
    Calls Try.prog 25 #[.pointer (some ⟨b, o, none⟩)] w fun e w' => e = .returned (.int .i32 wall) ∧ w' = w := by
  have hb := and_mask wall h0 h1
  go_enter Try.func25, Try.ntmps25
  go_wp2
  go_ret
  exact ⟨rfl, rfl⟩

theorem sec_any (b o : Nat) (wall ext : Int) (w : World) (h0 : 0 ≤ wall) (h1 : wall < 1073741824) (hc : w.cell? ⟨b, o, none⟩ = some (.int .u64 wall)) (hc1 : w.cell? ⟨b, o + 1, none⟩ = some (.int .i64 ext)) :
    Calls Try.prog 28 #[.pointer (some ⟨b, o, none⟩)] w fun e w' => e = .returned (.int .i64 ext) ∧ w' = w := by
  have hb := and_mono wall h0 h1
  go_enter Try.func28, Try.ntmps28
  go_wp2
  go_ret
  exact ⟨rfl, rfl⟩

theorem or_zero (n : Int) (h0 : 0 ≤ n) (h1 : n < 1073741824) : bits .or .u64 0 n = n := by
  rw [u64_or 0 n (by omega) (by omega) h0 (by omega)]
  simp; omega

theorem addSec_any (b o : Nat) (wall d : Int) (w : World) (h0 : 0 ≤ wall) (h1 : wall < 1073741824) (hd0 : -9223372036854775808 ≤ d) (hd1 : d ≤ 9223372036854775807) (hc : w.cell? ⟨b, o, none⟩ = some (.int .u64 wall)) (hc1 : w.cell? ⟨b, o + 1, none⟩ = some (.int .i64 0)) (hf : w.frozen? ⟨b, o + 1, none⟩ = false) :
    Calls Try.prog 26 #[.pointer (some ⟨b, o, none⟩), .int .i64 d] w fun e w' => e = .returned (.tuple #[]) ∧ w' = w.setCell ⟨b, o + 1, none⟩ (.int .i64 d) := by
  have hb := and_mono wall h0 h1
  by_cases hd : 0 < d
  · go_enter Try.func26, Try.ntmps26
    go_wp2
    go_end0
    exact ⟨rfl, rfl⟩
  · go_enter Try.func26, Try.ntmps26
    go_wp2
    go_end0
    exact ⟨rfl, rfl⟩

set_option maxHeartbeats 1000000 in
theorem add_core (d q m : Int) (w : World) (hq : d / 1000000000 = q) (hm : d % 1000000000 = m) (hd0 : -9223372036854775808 ≤ d) (hd1 : d ≤ 9223372036854775807) :
    Calls Try.prog 19 #[.agg #[.int .u64 0, .int .i64 0, .pointer none], .int .i64 d] w fun e w' => e = .returned (.agg #[.int .u64 m, .int .i64 q, .pointer none]) ∧ Below w.heap.size w w' := by
  have hm0 : 0 ≤ m := by omega
  have hm1 : m < 1000000000 := by omega
  have ha : bits .andNot .u64 0 1073741823 = 0 := by decide +kernel
  have ho := or_zero m hm0 (by omega)
  have hb := and_mono m hm0 (by omega)
  by_cases h : 0 ≤ d
  · go_enter Try.func19, Try.ntmps19
    go_wp2_with (first | (go_at_call 25; refine (nsec_any _ _ 0 _ (by omega) (by omega) (by simp)).mono ?_; rintro e w' ⟨rfl, rfl⟩) | (go_at_call 26; refine (addSec_any _ _ m q _ (by omega) (by omega) (by omega) (by omega) (by simp) (by simp) (by simp)).mono ?_; rintro e w' ⟨rfl, rfl⟩))
    exact bodyPost_ret (v := .agg #[.int .u64 m, .int .i64 q, .pointer none]) (by simp [results, Try.results19, go_sem]) rfl ⟨rfl, ((Below.refl _ _).alloc (Nat.le_refl _) _).alloc (by simp) _⟩
  · have t1 : d.tdiv 1000000000 = -((-d) / 1000000000) := by
      have := Int.neg_tdiv (-d) 1000000000
      rw [Int.neg_neg] at this
      rw [this, Int.tdiv_eq_ediv_of_nonneg (by omega)]
    have t2 : d.tmod 1000000000 = -((-d) % 1000000000) := by
      have := Int.neg_tmod (-d) 1000000000
      rw [Int.neg_neg] at this
      rw [this, Int.tmod_eq_emod_of_nonneg (by omega)]
    by_cases hz : m = 0
    · have e1 : d.tdiv 1000000000 = q := by omega
      have e2 : d.tmod 1000000000 = 0 := by omega
      clear t1 t2
      subst hz
      go_enter Try.func19, Try.ntmps19
      go_wp2_with (first | (go_at_call 25; refine (nsec_any _ _ 0 _ (by omega) (by omega) (by simp)).mono ?_; rintro e w' ⟨rfl, rfl⟩) | (go_at_call 26; refine (addSec_any _ _ 0 q _ (by omega) (by omega) (by omega) (by omega) (by simp) (by simp) (by simp)).mono ?_; rintro e w' ⟨rfl, rfl⟩))
      exact bodyPost_ret (v := .agg #[.int .u64 0, .int .i64 q, .pointer none]) (by simp [results, Try.results19, go_sem]) rfl ⟨rfl, ((Below.refl _ _).alloc (Nat.le_refl _) _).alloc (by simp) _⟩
    · have e1 : d.tdiv 1000000000 = q + 1 := by omega
      have e2 : d.tmod 1000000000 = m - 1000000000 := by omega
      have b1 : -9223372037 ≤ q := by omega
      have b2 : q ≤ 9223372037 := by omega
      have hmp : 0 < m := by omega
      clear t1 t2 hz
      go_enter Try.func19, Try.ntmps19
      go_wp2_with (first | (go_at_call 25; refine (nsec_any _ _ 0 _ (by omega) (by omega) (by simp)).mono ?_; rintro e w' ⟨rfl, rfl⟩) | (go_at_call 26; refine (addSec_any _ _ m q _ (by omega) (by omega) (by omega) (by omega) (by simp) (by simp) (by simp)).mono ?_; rintro e w' ⟨rfl, rfl⟩))
      exact bodyPost_ret (v := .agg #[.int .u64 m, .int .i64 q, .pointer none]) (by simp [results, Try.results19, go_sem]) rfl ⟨rfl, ((Below.refl _ _).alloc (Nat.le_refl _) _).alloc (by simp) _⟩

end Go.Proofs.Qxb6615209a
