/-
  PLAIN FLOATS, 4: whole numbers as floats, their quotients; midpoints; the width of a bracket.
-/
import Derived.Test.Qxb6615185aFloat3
namespace Go.Proofs.Qxb6615185a.Fl
open Ieee
set_option exponentiation.threshold 5000

/-! ### Whole numbers -/
def ofN (k : Nat) : Nat := rg k 0

theorem ofN_arith1 (P l z : Nat) (h : z < 2 * P) (hl : l ≤ 52) : min ((l + 1022) * P + z) (2047 * P) = (l + 1022) * P + z := by
  refine Nat.min_eq_left ?_
  have : (l + 1022) * P ≤ 1074 * P := Nat.mul_le_mul_right _ (by omega)
  have e : 2047 * P = 1074 * P + 973 * P := by rw [← Nat.add_mul]
  have : 2 * P ≤ 973 * P := Nat.mul_le_mul_right _ (by omega)
  omega
theorem ofN_arith2 (P l f : Nat) (h : f < P) : ((l + 1022) * P + (P + f)) % P = f ∧ ((l + 1022) * P + (P + f)) / P = l + 1022 + 1 ∧ ¬ (l + 1022) * P + (P + f) < P := by
  have e : (l + 1022) * P + (P + f) = f + P * (l + 1022 + 1) := by rw [Nat.mul_add, Nat.mul_one, Nat.mul_comm P]; omega
  refine ⟨?_, ?_, by omega⟩
  · rw [e, Nat.add_mul_mod_self_left]; exact Nat.mod_eq_of_lt h
  · rw [e, Nat.add_mul_div_left _ _ (by omega), Nat.div_eq_of_lt h, Nat.zero_add]

theorem ofN_size {k : Nat} (h0 : 0 < k) (h : k < 2 ^ 53) : 2 ^ 52 ≤ k * 2 ^ (52 - k.log2) ∧ k * 2 ^ (52 - k.log2) < 2 ^ 53 ∧ k.log2 ≤ 52 := by
  have hk : k ≠ 0 := by omega
  have hl := log2_le_52 k h
  have a1 : 2 ^ k.log2 ≤ k := Nat.log2_self_le hk
  have a2 : k < 2 ^ (k.log2 + 1) := Nat.lt_log2_self
  have b1 : 2 ^ 52 ≤ k * 2 ^ (52 - k.log2) := by
    have := Nat.mul_le_mul_right (2 ^ (52 - k.log2)) a1
    rw [← Nat.pow_add, show k.log2 + (52 - k.log2) = 52 by omega] at this; exact this
  have b2 : k * 2 ^ (52 - k.log2) < 2 ^ 53 := by
    have := Nat.mul_lt_mul_of_pos_right a2 (Nat.two_pow_pos (52 - k.log2))
    rw [← Nat.pow_add, show k.log2 + 1 + (52 - k.log2) = 53 by omega] at this; exact this
  exact ⟨b1, b2, hl⟩

theorem ofN_eq {k : Nat} (h0 : 0 < k) (h : k < 2 ^ 53) : ofN k = (k.log2 + 1022) * 2 ^ 52 + k * 2 ^ (52 - k.log2) := by
  obtain ⟨_, b2, hl⟩ := ofN_size h0 h
  have hlast : lastOf k 0 = (k.log2 : Int) - 52 := by unfold lastOf; omega
  unfold ofN rg
  rw [if_neg (by omega), hlast]
  have e1 : (0 - ((k.log2 : Int) - 52)).toNat = 52 - k.log2 := by omega
  have e2 : ((k.log2 : Int) - 52 - 0).toNat = 0 := by omega
  have e3 : ((k.log2 : Int) - 52 + 1074).toNat = k.log2 + 1022 := by omega
  have := rne_mul (k := k * 2 ^ (52 - k.log2)) (g := 1) (by omega)
  rw [Nat.mul_one] at this
  rw [e1, e2, e3, Nat.pow_zero, this]
  exact ofN_arith1 (2 ^ 52) k.log2 _ (by rw [← Nat.pow_succ']; exact b2) hl

theorem ofN_form {k : Nat} (h0 : 0 < k) (h : k < 2 ^ 53) : mg (ofN k) = k * 2 ^ (52 - k.log2) ∧ pl (ofN k) = k.log2 + 1022 ∧ 2 ^ 52 ≤ ofN k := by
  obtain ⟨b1, b2, hl⟩ := ofN_size h0 h
  obtain ⟨f, hf⟩ : ∃ f, k * 2 ^ (52 - k.log2) = 2 ^ 52 + f := ⟨k * 2 ^ (52 - k.log2) - 2 ^ 52, (Nat.add_sub_cancel' b1).symm⟩
  have hfl : f < 2 ^ 52 := by
    rw [hf, Nat.pow_succ'] at b2; omega
  obtain ⟨c1, c2, c3⟩ := ofN_arith2 (2 ^ 52) k.log2 f hfl
  rw [ofN_eq h0 h, hf]
  refine ⟨?_, ?_, Nat.le_of_not_lt c3⟩
  · unfold mg; rw [if_neg c3, c1]
  · unfold pl; rw [c2]; rfl

theorem ofN_val {k : Nat} (h0 : 0 < k) (h : k < 2 ^ 53) : val (ofN k) = k * 2 ^ 1074 := by
  obtain ⟨h1, h2, _⟩ := ofN_form h0 h
  obtain ⟨_, _, h3⟩ := ofN_size h0 h
  unfold val; rw [h1, h2, Nat.mul_assoc, ← Nat.pow_add, show 52 - k.log2 + (k.log2 + 1022) = 1074 by omega]

theorem ofN_bounds {k : Nat} (h0 : 0 < k) (h : k < 2 ^ 53) : 2 ^ 52 ≤ ofN k ∧ ofN k < inf := by
  obtain ⟨b1, b2, hl⟩ := ofN_size h0 h
  refine ⟨(ofN_form h0 h).2.2, ?_⟩
  rw [ofN_eq h0 h]
  have e : (k.log2 + 1022) * 2 ^ 52 ≤ 1074 * 2 ^ 52 := Nat.mul_le_mul_right _ (by omega)
  have c : 1074 * 2 ^ 52 + 2 ^ 53 ≤ inf := by decide
  omega

theorem ofN_zero : ofN 0 = 0 := rfl

theorem ofN_mono {a b : Nat} (h : a ≤ b) : ofN a ≤ ofN b := rg_mono_same 0 h

/-- The float of a whole number that stands in units. -/
theorem rI_ofN (k : Nat) : rI ((k * 2 ^ 1074 : Nat) : Int) = ofN k := by
  unfold rI ofN
  rw [if_neg (by omega), Int.natAbs_natCast, rg_scale]; rfl

/-! ### Quotients -/
def sd (d n : Nat) : Nat := 2 * (d / n) + (d % n != 0).toNat
def sq (m n : Nat) : Nat := sd (m * 2 ^ 54) n

theorem sd_mono {d1 d2 n : Nat} (hd : d1 ≤ d2) : sd d1 n ≤ sd d2 n := by
  unfold sd
  have hq : d1 / n ≤ d2 / n := Nat.div_le_div_right hd
  have b1 : (d1 % n != 0).toNat ≤ 1 := by cases (d1 % n != 0) <;> decide
  rcases Nat.lt_or_eq_of_le hq with hlt | he
  · omega
  · have hr : d1 % n ≤ d2 % n := by
      have h1 := Nat.div_add_mod d1 n; have h2 := Nat.div_add_mod d2 n; rw [he] at h1; omega
    rw [he]
    have : (d1 % n != 0).toNat ≤ (d2 % n != 0).toNat := by
      by_cases h1 : d1 % n = 0
      · rw [h1]; simp
      · have h2 : d2 % n ≠ 0 := by omega
        have e1 : (d1 % n != 0) = true := by simpa using h1
        have e2 : (d2 % n != 0) = true := by simpa using h2
        rw [e1, e2]; exact Nat.le_refl _
    omega

theorem sd_jump {d1 d2 n : Nat} (h : d1 + 2 * n ≤ 2 * d2) (hn0 : 0 < n) : sd d1 n ≤ 2 * sd d2 n := by
  have u : sd d1 n ≤ 2 * (d1 / n) + 1 := by
    unfold sd
    have : (d1 % n != 0).toNat ≤ 1 := by cases (d1 % n != 0) <;> decide
    omega
  have l : 2 * (d2 / n) ≤ sd d2 n := by unfold sd; omega
  have q1 : d1 / n * n ≤ d1 := Nat.div_mul_le_self _ _
  have q2 : d2 < (d2 / n + 1) * n := by
    have := Nat.lt_div_mul_add (a := d2) hn0
    rw [Nat.add_mul, Nat.one_mul]; omega
  have q3 : (d1 / n + 2) * n < (2 * (d2 / n + 1)) * n := by
    rw [Nat.add_mul, Nat.mul_assoc 2]
    omega
  have := Nat.lt_of_mul_lt_mul_right q3
  omega

theorem sd_le {d n k : Nat} (h : d < k * n) : sd d n ≤ 2 * k := by
  unfold sd
  have : d / n < k := Nat.div_lt_of_lt_mul (by rw [Nat.mul_comm]; exact h)
  have : (d % n != 0).toNat ≤ 1 := by cases (d % n != 0) <;> decide
  omega

theorem mg_norm {x : Nat} (h : 2 ^ 52 ≤ x) : 2 ^ 52 ≤ mg x := by unfold mg; rw [if_neg (by omega)]; omega

theorem div_norm {x y : Nat} (hx1 : 2 ^ 52 ≤ x) (hx2 : x < inf) (hy1 : 2 ^ 52 ≤ y) (hy2 : y < inf) :
    double.div x y = some (rg (sq (mg x) (mg y)) ((pl x : Int) - pl y - 55)) := by
  have hl := inf_lt
  unfold Format.div
  have hx' : rn x = x := rn_pos (by omega)
  have hy' : rn y = y := rn_pos (by omega)
  rw [read_fin (x := x) (by omega), read_fin (x := y) (by omega), hx', hy', ng_pos (x := x) (by omega), ng_pos (x := y) (by omega)]
  have l1 := log2_norm (mg x) (mg_norm hx1) (mg_lt x)
  have l2 := log2_norm (mg y) (mg_norm hy1) (mg_lt y)
  have efb : double.fractionBits + 2 = 54 := rfl
  simp only [Datum.quotient, efb, l1, l2]
  have hy0 := mg_norm hy1
  rw [if_neg (by have := Nat.two_pow_pos 52; omega)]
  simp only [Option.map_some, Bool.xor_false]
  rw [write_pos, Nat.shiftLeft_eq]
  have e : -1074 + (pl x : Int) - (-1074 + (pl y : Int)) - ((54 + 52 - 52 : Nat) : Int) - 1 = (pl x : Int) - pl y - 55 := by omega
  rw [e]; rfl

/-- A quotient of two numbers, not by zero, is a number or infinity, not below zero. -/
theorem div_any {x y : Nat} (hx : x < inf) (hy0 : 0 < y) (hy : y < inf) : ∃ r, double.div x y = some r ∧ r ≤ inf := by
  have hl := inf_lt
  unfold Format.div
  have hx' : rn x = x := rn_pos (by omega)
  have hy' : rn y = y := rn_pos (by omega)
  rw [read_fin (x := x) (by omega), read_fin (x := y) (by omega), hx', hy', ng_pos (x := x) (by omega), ng_pos (x := y) (by omega)]
  simp only [Datum.quotient]
  have := mg_pos hy0
  rw [if_neg (by omega)]
  simp only [Option.map_some, Bool.xor_false]
  rw [write_pos]
  exact ⟨_, rfl, rg_le_inf _ _⟩

theorem pl_mono {a b : Nat} (h : a ≤ b) : pl a ≤ pl b := by
  unfold pl; have := Nat.div_le_div_right (c := 2 ^ 52) h; omega

theorem sq_mono {m1 m2 n : Nat} (h : m1 ≤ m2) : sq m1 n ≤ sq m2 n := sd_mono (Nat.mul_le_mul_right _ h)

theorem sq_jump {m1 m2 n : Nat} (h1 : m1 < 2 ^ 53) (h2 : 2 ^ 52 ≤ m2) (hn : n < 2 ^ 53) (hn0 : 0 < n) : sq m1 n ≤ 2 * sq m2 n := by
  refine sd_jump ?_ hn0
  have a : (m1 + 1) * 2 ^ 54 ≤ 2 ^ 53 * 2 ^ 54 := Nat.mul_le_mul_right _ h1
  have b : 2 ^ 52 * 2 ^ 54 ≤ m2 * 2 ^ 54 := Nat.mul_le_mul_right _ h2
  rw [Nat.add_mul, Nat.one_mul] at a
  have e1 : 2 ^ 53 * 2 ^ 54 = 2 * (2 ^ 52 * 2 ^ 54) := by decide
  have e2 : 2 ^ 54 = 2 * 2 ^ 53 := by decide
  rw [e1] at a
  omega

/-- THE QUOTIENT IS MONOTONE IN THE NUMERATOR (normal numbers). -/
theorem div_mono {x1 x2 y : Nat} (hx1 : 2 ^ 52 ≤ x1) (h : x1 ≤ x2) (hy1 : 2 ^ 52 ≤ y) :
    rg (sq (mg x1) (mg y)) ((pl x1 : Int) - pl y - 55) ≤ rg (sq (mg x2) (mg y)) ((pl x2 : Int) - pl y - 55) := by
  have hp := pl_mono h
  refine rg_mono ((pl x1 : Int) - pl y - 55) (Int.le_refl _) (by omega) ?_
  have e1 : ((pl x1 : Int) - pl y - 55 - ((pl x1 : Int) - pl y - 55)).toNat = 0 := by omega
  have e2 : ((pl x2 : Int) - pl y - 55 - ((pl x1 : Int) - pl y - 55)).toNat = pl x2 - pl x1 := by omega
  rw [e1, e2, Nat.pow_zero, Nat.mul_one]
  rcases Nat.lt_or_eq_of_le hp with hlt | he
  · obtain ⟨k, hk⟩ : ∃ k, pl x2 - pl x1 = k + 1 := ⟨pl x2 - pl x1 - 1, by omega⟩
    rw [hk, Nat.pow_succ]
    have j := sq_jump (n := mg y) (mg_lt x1) (mg_norm (Nat.le_trans hx1 h)) (mg_lt y) (by have := mg_norm hy1; have := Nat.two_pow_pos 52; omega)
    have : 2 * sq (mg x2) (mg y) ≤ sq (mg x2) (mg y) * (2 ^ k * 2) := by
      rw [Nat.mul_comm 2, ← Nat.mul_assoc]
      refine Nat.mul_le_mul_right 2 ?_
      have := Nat.mul_le_mul_left (sq (mg x2) (mg y)) (Nat.two_pow_pos k)
      rw [Nat.mul_one] at this; exact this
    omega
  · rw [he, Nat.sub_self, Nat.pow_zero, Nat.mul_one]
    refine sq_mono ?_
    have hv := val_le h
    unfold val at hv; rw [he] at hv
    exact Nat.le_of_mul_le_mul_right hv (Nat.two_pow_pos _)

/-- The rung of 'k / d', two whole numbers. -/
def Q (d k : Nat) : Nat := if k = 0 then 0 else rg (sq (mg (ofN k)) (mg (ofN d))) ((pl (ofN k) : Int) - pl (ofN d) - 55)

theorem Q_mono {d a b : Nat} (hd0 : 0 < d) (hd : d < 2 ^ 53) (h : a ≤ b) (hb : b < 2 ^ 53) : Q d a ≤ Q d b := by
  unfold Q
  by_cases ha : a = 0
  · rw [if_pos ha]; exact Nat.zero_le _
  · rw [if_neg ha, if_neg (by omega)]
    exact div_mono (ofN_bounds (by omega) (by omega)).1 (ofN_mono h) (ofN_bounds hd0 hd).1

theorem Q_fin {d k : Nat} (hd0 : 0 < d) (hd : d < 2 ^ 53) (hk : k < 2 ^ 53) : Q d k < inf := by
  unfold Q
  by_cases h0 : k = 0
  · rw [if_pos h0]; decide
  · rw [if_neg h0]
    obtain ⟨_, k1, _⟩ := ofN_form (k := k) (by omega) hk
    obtain ⟨_, _, k2⟩ := ofN_size (k := k) (by omega) hk
    obtain ⟨_, d1, _⟩ := ofN_form hd0 hd
    have hm := mg_lt (ofN k)
    have hn := mg_norm (ofN_bounds hd0 hd).1
    have s : sq (mg (ofN k)) (mg (ofN d)) ≤ 2 * 2 ^ 55 := by
      refine sd_le ?_
      have a : mg (ofN k) * 2 ^ 54 < 2 ^ 53 * 2 ^ 54 := Nat.mul_lt_mul_of_pos_right hm (Nat.two_pow_pos _)
      have b : 2 ^ 55 * 2 ^ 52 ≤ 2 ^ 55 * mg (ofN d) := Nat.mul_le_mul_left _ hn
      have e : 2 ^ 53 * 2 ^ 54 = 2 ^ 55 * 2 ^ 52 := by decide
      rw [e] at a
      exact Nat.lt_of_lt_of_le a b
    rw [k1, d1]
    generalize sq (mg (ofN k)) (mg (ofN d)) = x at s
    have key : rg x (((k.log2 + 1022 : Nat) : Int) - ((d.log2 + 1022 : Nat) : Int) - 55) ≤ rg (2 * 2 ^ 55) (-3) := by
      refine rg_mono (((k.log2 + 1022 : Nat) : Int) - ((d.log2 + 1022 : Nat) : Int) - 55) (Int.le_refl _) (by omega) ?_
      have e1 : (((k.log2 + 1022 : Nat) : Int) - ((d.log2 + 1022 : Nat) : Int) - 55 - (((k.log2 + 1022 : Nat) : Int) - ((d.log2 + 1022 : Nat) : Int) - 55)).toNat = 0 := by omega
      rw [e1, Nat.pow_zero, Nat.mul_one]
      generalize (-3 - (((k.log2 + 1022 : Nat) : Int) - ((d.log2 + 1022 : Nat) : Int) - 55)).toNat = j
      have := Nat.mul_le_mul_left (2 * 2 ^ 55) (Nat.two_pow_pos j)
      rw [Nat.mul_one] at this
      exact Nat.le_trans s this
    have c : rg (2 * 2 ^ 55) (-3) < inf := by decide +kernel
    exact Nat.lt_of_le_of_lt key c

/-- A word whose key is a positive rung is that rung. -/
theorem word_of_key {x r : Nat} (h : ok x) (hr : 0 < r) (hk : key x = r) : x = r := by
  unfold key at hk
  have h1 := h.1
  cases hn : ng x
  · rw [hn] at hk; simp only [Bool.false_eq_true, if_false] at hk
    unfold ng at hn
    unfold rn at hk
    have hd := Nat.div_add_mod x (2 ^ 63)
    have h2 : x / 2 ^ 63 < 2 := by rw [Nat.div_lt_iff_lt_mul (by decide)]; omega
    have : x / 2 ^ 63 = 0 := by
      rcases Nat.eq_zero_or_pos (x / 2 ^ 63) with h' | h'
      · exact h'
      · have : x / 2 ^ 63 = 1 := by omega
        rw [this] at hn; simp at hn
    rw [this] at hd; omega
  · rw [hn] at hk; simp only [if_true] at hk; omega

theorem word_of_key_zero {x : Nat} (h : ok x) (hk : key x = 0) : rn x = 0 ∧ fin x := by
  unfold key at hk
  have : rn x = 0 := by split at hk <;> omega
  exact ⟨this, h.1, by rw [this]; decide⟩

theorem div_zero {s y : Nat} (h : rn s = 0) (hy1 : 2 ^ 52 ≤ y) (hy2 : y < inf) : ∃ w, double.div s y = some w ∧ ok w ∧ key w = 0 := by
  have hl := inf_lt
  unfold Format.div
  have hy' : rn y = y := rn_pos (by omega)
  have hi : 0 < inf := by decide
  rw [read_fin (x := s) (by omega), read_fin (x := y) (by omega), hy', h, ng_pos (x := y) (by omega)]
  have hy0 := mg_norm hy1
  have m0 : mg 0 = 0 := by decide
  simp only [Datum.quotient, m0]
  rw [if_neg (by have := Nat.two_pow_pos 52; omega)]
  simp only [Option.map_some, Nat.zero_shiftLeft, Nat.zero_div, Nat.zero_mod]
  refine ⟨_, rfl, ?_⟩
  show ok (double.nearest _ _ _) ∧ key (double.nearest _ _ _) = 0
  rw [nearest_eq]
  have e : 2 * 0 + ((0 : Nat) != 0).toNat = 0 := rfl
  rw [e]
  have r0 : ∀ p, rg 0 p = 0 := fun p => by unfold rg; rw [if_pos rfl]
  rw [r0]
  have hk := key_word (neg := (ng s ^^ false)) (Nat.zero_le inf)
  refine ⟨hk.2, ?_⟩
  rw [hk.1]; split <;> rfl

/-- A SUM OF ONES, OVER A WHOLE NUMBER. -/
theorem div_ofN {s d k : Nat} (hs : ok s) (hk : key s = ofN k) (hkb : k < 2 ^ 53) (hd0 : 0 < d) (hd : d < 2 ^ 53) :
    ∃ w, double.div s (ofN d) = some w ∧ fin w ∧ key w = Q d k := by
  have hdb := ofN_bounds hd0 hd
  by_cases h0 : k = 0
  · subst h0
    obtain ⟨h1, _⟩ := word_of_key_zero hs (by rw [hk, ofN_zero]; rfl)
    obtain ⟨w, h2, h3, h4⟩ := div_zero h1 hdb.1 hdb.2
    exact ⟨w, h2, (word_of_key_zero h3 h4).2, by rw [h4]; rfl⟩
  · have hb := ofN_bounds (k := k) (by omega) hkb
    have hs' : s = ofN k := word_of_key hs (by omega) hk
    subst hs'
    have hq := Q_fin hd0 hd hkb
    have hlt := inf_lt
    refine ⟨Q d k, ?_, fin_pos hq, key_pos (by omega)⟩
    rw [div_norm hb.1 hb.2 hdb.1 hdb.2]; unfold Q; rw [if_neg h0]

/-- One more: the sum of ones goes on. -/
theorem fin_of_key {s k : Nat} (hs : ok s) (hk : key s = ofN k) (hkb : k < 2 ^ 53) : fin s ∧ iv s = (k * 2 ^ 1074 : Nat) := by
  by_cases h0 : k = 0
  · subst h0
    obtain ⟨h1, h2⟩ := word_of_key_zero hs (by rw [hk, ofN_zero]; rfl)
    refine ⟨h2, ?_⟩
    unfold iv; rw [h1, val_zero]; cases ng s <;> simp
  · have hb := ofN_bounds (k := k) (by omega) hkb
    have hs' : s = ofN k := word_of_key hs (by omega) hk
    subst hs'
    have hlt := inf_lt
    exact ⟨fin_pos hb.2, by rw [iv_pos (by omega), ofN_val (by omega) hkb]⟩

theorem add_ofN {s y k j : Nat} (hs : ok s) (hk : key s = ofN k) (hkb : k < 2 ^ 53) (hy : ok y) (hj : key y = ofN j) (hjb : j < 2 ^ 53) :
    ∃ w, double.add s y = some w ∧ ok w ∧ key w = ofN (k + j) := by
  obtain ⟨f1, i1⟩ := fin_of_key hs hk hkb
  obtain ⟨f2, i2⟩ := fin_of_key hy hj hjb
  obtain ⟨w, h1, h2, h3⟩ := add_key f1 f2
  refine ⟨w, h1, h2, ?_⟩
  rw [h3, i1, i2, ← Int.natCast_add, ← Nat.add_mul, rI_ofN]

end Go.Proofs.Qxb6615185a.Fl
