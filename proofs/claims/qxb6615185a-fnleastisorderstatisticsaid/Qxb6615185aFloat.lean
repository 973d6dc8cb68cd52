/-
  PLAIN FLOATS. Nothing of Go here: rounding to nearest (ties to even) over Ieee.double is monotone, scales, and is exact at the format's own numbers.
-/
import Ieee.Arith
namespace Go.Proofs.Qxb6615185a.Fl
open Ieee

/-- 'n / g' to the nearest whole number, ties to even. -/
def rne (n g : Nat) : Nat := n / g + (if g < 2 * (n % g) ∨ (g = 2 * (n % g) ∧ (n / g) % 2 = 1) then 1 else 0)

theorem rne_ge (n g : Nat) : n / g ≤ rne n g := by unfold rne; omega
theorem rne_le (n g : Nat) : rne n g ≤ n / g + 1 := by unfold rne; split <;> omega

theorem rne_mono {n1 n2 g : Nat} (h : n1 ≤ n2) : rne n1 g ≤ rne n2 g := by
  have hq : n1 / g ≤ n2 / g := Nat.div_le_div_right h
  rcases Nat.lt_or_ge (n1 / g) (n2 / g) with hlt | hge
  · have := rne_le n1 g; have := rne_ge n2 g; omega
  · have he : n1 / g = n2 / g := by omega
    have hr : n1 % g ≤ n2 % g := by
      have h1 := Nat.div_add_mod n1 g; have h2 := Nat.div_add_mod n2 g; rw [he] at h1; omega
    unfold rne
    rw [he]
    split <;> split <;> omega

theorem rne_mul {k g : Nat} (hg : 0 < g) : rne (k * g) g = k := by
  unfold rne
  rw [Nat.mul_div_cancel _ hg, Nat.mul_mod_left]
  have : ¬ (g < 2 * 0 ∨ g = 2 * 0 ∧ k % 2 = 1) := by omega
  rw [if_neg this]; rfl

theorem rne_scale (n g c : Nat) (hc : 0 < c) : rne (n * c) (g * c) = rne n g := by
  unfold rne
  rw [Nat.mul_div_mul_right _ _ hc, Nat.mul_mod_mul_right]
  have e1 : (g * c < 2 * (n % g * c)) ↔ (g < 2 * (n % g)) := by
    rw [← Nat.mul_assoc]; exact Nat.mul_lt_mul_right hc
  have e2 : (g * c = 2 * (n % g * c)) ↔ (g = 2 * (n % g)) := by
    rw [← Nat.mul_assoc]; exact Nat.mul_left_inj (by omega)
  simp only [e1, e2]

theorem rne_lower {k n g : Nat} (hg : 0 < g) (h : k * g ≤ n) : k ≤ rne n g := by
  have := rne_mono (g := g) h; rw [rne_mul hg] at this; exact this
theorem rne_upper {k n g : Nat} (hg : 0 < g) (h : n ≤ k * g) : rne n g ≤ k := by
  have := rne_mono (g := g) h; rw [rne_mul hg] at this; exact this

theorem cut_eq (neg : Bool) (n drop : Nat) : Toward.even.cut neg n drop = rne n (2 ^ drop) := by
  have key : ∀ g, (n / g + ((decide (g < 2 * (n % g)) || (g == 2 * (n % g) && n / g % 2 == 1))).toNat) = rne n g := by
    intro g
    unfold rne
    by_cases h : g < 2 * (n % g) ∨ (g = 2 * (n % g) ∧ (n / g) % 2 = 1)
    · rw [if_pos h]
      have : (decide (g < 2 * (n % g)) || (g == 2 * (n % g) && n / g % 2 == 1)) = true := by simpa using h
      rw [this]; rfl
    · rw [if_neg h]
      have : (decide (g < 2 * (n % g)) || (g == 2 * (n % g) && n / g % 2 == 1)) = false := by
        rw [Bool.eq_false_iff]; intro hc; exact h (by simpa using hc)
      rw [this]; rfl
  unfold Toward.cut
  simp only [Nat.shiftLeft_eq, Nat.one_mul]
  rw [key]
  rcases Nat.le_total drop (n.log2 + 2) with h | h
  · rw [Nat.min_eq_left h]
  · rw [Nat.min_eq_right h]
    have hn : n < 2 ^ (n.log2 + 1) := Nat.lt_log2_self
    have h1 : 2 ^ (n.log2 + 2) = 2 * 2 ^ (n.log2 + 1) := by rw [Nat.pow_succ 2 (n.log2 + 1), Nat.mul_comm]
    have h2 : 2 ^ (n.log2 + 2) ≤ 2 ^ drop := Nat.pow_le_pow_right (by omega) h
    have z : ∀ g, 2 * n < g → rne n g = 0 := by
      intro g hg
      unfold rne
      rw [Nat.div_eq_of_lt (by omega), Nat.mod_eq_of_lt (by omega)]
      rw [if_neg (by omega)]
    rw [z _ (by omega), z _ (by omega)]

/-- The place of the last digit kept. -/
def lastOf (mag : Nat) (place : Int) : Int := max (place + (mag.log2 : Int) - 52) (-1074)

/-- The rung to which 'mag * 2 ^ place' is rounded. -/
def rg (mag : Nat) (place : Int) : Nat :=
  if mag = 0 then 0 else
    min ((lastOf mag place + 1074).toNat * 2 ^ 52 + rne (mag * 2 ^ (place - lastOf mag place).toNat) (2 ^ (lastOf mag place - place).toNat)) (2047 * 2 ^ 52)

theorem double_least : double.leastPlace = -1074 := by decide
theorem double_binade : double.binade = 2 ^ 52 := rfl
theorem double_inf : double.infRung = 2047 * 2 ^ 52 := by decide
theorem double_sign : double.signWeight = 2 ^ 63 := rfl

theorem nearest_eq (neg : Bool) (mag : Nat) (place : Int) : double.nearest neg mag place = double.word neg (rg mag place) := by
  unfold Format.nearest rg
  by_cases h : mag = 0
  · rw [if_pos h, if_pos h]
  · rw [if_neg h, if_neg h]
    simp only [double_least, double_binade, double_inf, cut_eq, Nat.shiftLeft_eq]
    rfl

theorem log2_mul_pow (m k : Nat) (hm : m ≠ 0) : (m * 2 ^ k).log2 = m.log2 + k := by
  have hp : 0 < 2 ^ k := Nat.two_pow_pos k
  have h1 : m * 2 ^ k ≠ 0 := Nat.mul_ne_zero hm (by omega)
  have a1 : 2 ^ m.log2 ≤ m := Nat.log2_self_le hm
  have a2 : m < 2 ^ (m.log2 + 1) := Nat.lt_log2_self
  have b1 : 2 ^ (m.log2 + k) ≤ m * 2 ^ k := by rw [Nat.pow_add]; exact Nat.mul_le_mul_right _ a1
  have b2 : m * 2 ^ k < 2 ^ (m.log2 + k + 1) := by
    rw [show m.log2 + k + 1 = m.log2 + 1 + k by omega, Nat.pow_add]; exact Nat.mul_lt_mul_of_pos_right a2 hp
  have c1 := (Nat.le_log2 h1).2 b1
  have c2 := (Nat.log2_lt h1).2 b2
  omega

theorem lastOf_scale (m k : Nat) (p : Int) (hm : m ≠ 0) : lastOf (m * 2 ^ k) p = lastOf m (p + k) := by
  unfold lastOf; rw [log2_mul_pow m k hm]
  rw [show p + ((m.log2 + k : Nat) : Int) - 52 = p + (k : Int) + (m.log2 : Int) - 52 by omega]

/-- R0: the rounding hangs on the exact number alone. -/
theorem rg_scale (m k : Nat) (p : Int) : rg (m * 2 ^ k) p = rg m (p + k) := by
  by_cases hm : m = 0
  · subst hm; simp [rg]
  · have h1 : m * 2 ^ k ≠ 0 := Nat.mul_ne_zero hm (by have := Nat.two_pow_pos k; omega)
    unfold rg
    rw [if_neg h1, if_neg hm, lastOf_scale m k p hm]
    generalize lastOf m (p + k) = l
    congr 1
    congr 1
    have pp : ∀ j, 0 < 2 ^ j := fun j => Nat.two_pow_pos j
    rcases Int.le_total l p with h | h
    · have e1 : (l - p).toNat = 0 := by omega
      have e2 : (l - (p + k)).toNat = 0 := by omega
      have e3 : (p + k - l).toNat = k + (p - l).toNat := by omega
      rw [e1, e2, e3, Nat.pow_add, Nat.mul_assoc]
    · rcases Int.le_total l (p + k) with h' | h'
      · have e1 : (p - l).toNat = 0 := by omega
        have e2 : (l - (p + k)).toNat = 0 := by omega
        have e3 : k = (p + k - l).toNat + (l - p).toNat := by omega
        rw [e1, e2, Nat.pow_zero, Nat.mul_one]
        conv => lhs; rw [e3, Nat.pow_add, ← Nat.mul_assoc]
        rw [rne_mul (pp _)]
        have := rne_mul (k := m * 2 ^ (p + ↑k - l).toNat) (g := 1) (by omega)
        rw [Nat.mul_one] at this; exact this.symm
      · have e1 : (p - l).toNat = 0 := by omega
        have e2 : (p + k - l).toNat = 0 := by omega
        have e3 : (l - p).toNat = (l - (p + k)).toNat + k := by omega
        rw [e1, e2, Nat.pow_zero, Nat.mul_one, Nat.mul_one, e3, Nat.pow_add, rne_scale _ _ _ (pp _)]

theorem kept_le (m : Nat) (p : Int) : rne (m * 2 ^ (p - lastOf m p).toNat) (2 ^ (lastOf m p - p).toNat) ≤ 2 ^ 53 := by
  have a2 : m < 2 ^ (m.log2 + 1) := Nat.lt_log2_self
  have hl : p + (m.log2 : Int) - 52 ≤ lastOf m p := by unfold lastOf; omega
  generalize lastOf m p = l at hl ⊢
  refine rne_upper (Nat.two_pow_pos _) ?_
  rw [← Nat.pow_add]
  have : m * 2 ^ (p - l).toNat ≤ 2 ^ (m.log2 + 1) * 2 ^ (p - l).toNat := Nat.mul_le_mul_right _ (by omega)
  rw [← Nat.pow_add] at this
  exact Nat.le_trans this (Nat.pow_le_pow_right (by omega) (by omega))

theorem kept_ge (m : Nat) (p : Int) (hm : m ≠ 0) (hl : lastOf m p = p + (m.log2 : Int) - 52) :
    2 ^ 52 ≤ rne (m * 2 ^ (p - lastOf m p).toNat) (2 ^ (lastOf m p - p).toNat) := by
  have a1 : 2 ^ m.log2 ≤ m := Nat.log2_self_le hm
  generalize lastOf m p = l at hl ⊢
  refine rne_lower (Nat.two_pow_pos _) ?_
  rw [← Nat.pow_add]
  have : 2 ^ m.log2 * 2 ^ (p - l).toNat ≤ m * 2 ^ (p - l).toNat := Nat.mul_le_mul_right _ a1
  rw [← Nat.pow_add] at this
  exact Nat.le_trans (Nat.pow_le_pow_right (by omega) (by omega)) this

theorem log2_mono {a b : Nat} (ha : a ≠ 0) (h : a ≤ b) : a.log2 ≤ b.log2 := by
  have a1 : 2 ^ a.log2 ≤ a := Nat.log2_self_le ha
  exact (Nat.le_log2 (by omega)).2 (by omega)

/-- R1 at one place. -/
theorem rg_mono_same {m1 m2 : Nat} (p : Int) (h : m1 ≤ m2) : rg m1 p ≤ rg m2 p := by
  by_cases h1 : m1 = 0
  · unfold rg; rw [if_pos h1]; exact Nat.zero_le _
  · have h2 : m2 ≠ 0 := by omega
    have hlog := log2_mono h1 h
    have k1 := kept_le m1 p
    have k2 : lastOf m1 p < lastOf m2 p → 2 ^ 52 ≤ rne (m2 * 2 ^ (p - lastOf m2 p).toNat) (2 ^ (lastOf m2 p - p).toNat) := by
      intro hlt
      refine kept_ge m2 p h2 ?_
      have : -1074 ≤ lastOf m1 p := by unfold lastOf; omega
      unfold lastOf at hlt this ⊢; omega
    have hll : lastOf m1 p ≤ lastOf m2 p := by unfold lastOf; omega
    have hlow : -1074 ≤ lastOf m1 p := by unfold lastOf; omega
    unfold rg
    rw [if_neg h1, if_neg h2]
    have main : (lastOf m1 p + 1074).toNat * 2 ^ 52 + rne (m1 * 2 ^ (p - lastOf m1 p).toNat) (2 ^ (lastOf m1 p - p).toNat)
        ≤ (lastOf m2 p + 1074).toNat * 2 ^ 52 + rne (m2 * 2 ^ (p - lastOf m2 p).toNat) (2 ^ (lastOf m2 p - p).toNat) := by
      rcases Int.lt_or_eq_of_le hll with hlt | heq
      · have k2' := k2 hlt
        generalize rne (m1 * 2 ^ (p - lastOf m1 p).toNat) (2 ^ (lastOf m1 p - p).toNat) = x1 at *
        generalize rne (m2 * 2 ^ (p - lastOf m2 p).toNat) (2 ^ (lastOf m2 p - p).toNat) = x2 at *
        omega
      · rw [heq]
        exact Nat.add_le_add_left (rne_mono (g := 2 ^ (lastOf m2 p - p).toNat) (Nat.mul_le_mul_right (2 ^ (p - lastOf m2 p).toNat) h)) _
    rw [Nat.le_min]
    exact ⟨Nat.le_trans (Nat.min_le_left _ _) main, Nat.min_le_right _ _⟩

/-- R1: THE ROUNDING IS MONOTONE. -/
theorem rg_mono {m1 m2 : Nat} {p1 p2 : Int} (B : Int) (h1 : B ≤ p1) (h2 : B ≤ p2)
    (h : m1 * 2 ^ (p1 - B).toNat ≤ m2 * 2 ^ (p2 - B).toNat) : rg m1 p1 ≤ rg m2 p2 := by
  have := rg_mono_same B h
  rw [rg_scale, rg_scale] at this
  rwa [show B + ((p1 - B).toNat : Int) = p1 by omega, show B + ((p2 - B).toNat : Int) = p2 by omega] at this

theorem rg_le_inf (m : Nat) (p : Int) : rg m p ≤ 2047 * 2 ^ 52 := by
  unfold rg; split
  · omega
  · exact Nat.min_le_right _ _

/-- The significand of a rung, and how far its last digit lies above the least place. -/
def mg (r : Nat) : Nat := if r < 2 ^ 52 then r else 2 ^ 52 + r % 2 ^ 52
def pl (r : Nat) : Nat := r / 2 ^ 52 - 1
/-- What a rung is worth, in units of 2 ^ -1074. -/
def val (r : Nat) : Nat := mg r * 2 ^ pl r

theorem log2_norm (m : Nat) (h1 : 2 ^ 52 ≤ m) (h2 : m < 2 ^ 53) : m.log2 = 52 := by
  have h0 : m ≠ 0 := by have := Nat.two_pow_pos 52; omega
  have c1 := (Nat.le_log2 h0).2 h1
  have c2 := (Nat.log2_lt h0).2 h2
  omega

/-- R2: EXACT at the format's own numbers. -/
theorem rg_val (r : Nat) (h : r ≤ 2047 * 2 ^ 52) : rg (val r) (-1074) = r := by
  unfold val
  rw [rg_scale]
  unfold mg pl
  by_cases hr : r < 2 ^ 52
  · rw [if_pos hr]
    have e : r / 2 ^ 52 = 0 := Nat.div_eq_of_lt hr
    rw [e]
    by_cases h0 : r = 0
    · subst h0; simp [rg]
    · have c2 := (Nat.log2_lt h0).2 hr
      have hl : lastOf r (-1074 + ((0 - 1 : Nat) : Int)) = -1074 := by unfold lastOf; omega
      unfold rg
      rw [if_neg h0, hl]
      have := rne_mul (k := r) (g := 1) (by omega)
      rw [Nat.mul_one] at this
      have e0 : (-1074 + ((0 - 1 : Nat) : Int) - -1074).toNat = 0 := by omega
      have e1 : (-1074 - (-1074 + ((0 - 1 : Nat) : Int))).toNat = 0 := by omega
      rw [e0, e1, Nat.pow_zero, Nat.mul_one, this]
      omega
  · rw [if_neg hr]
    have hm : r % 2 ^ 52 < 2 ^ 52 := Nat.mod_lt _ (Nat.two_pow_pos _)
    have hd := Nat.div_add_mod r (2 ^ 52)
    have hq : 1 ≤ r / 2 ^ 52 := (Nat.le_div_iff_mul_le (Nat.two_pow_pos _)).2 (by omega)
    have hlg := log2_norm (2 ^ 52 + r % 2 ^ 52) (by omega) (by omega)
    generalize r % 2 ^ 52 = f at *
    generalize r / 2 ^ 52 = e at *
    have hl : lastOf (2 ^ 52 + f) (-1074 + ((e - 1 : Nat) : Int)) = -1074 + ((e - 1 : Nat) : Int) := by
      unfold lastOf; rw [hlg]; omega
    unfold rg
    rw [if_neg (by omega), hl]
    have := rne_mul (k := 2 ^ 52 + f) (g := 1) (by omega)
    rw [Nat.mul_one] at this
    have e0 : (-1074 + ((e - 1 : Nat) : Int) - (-1074 + ((e - 1 : Nat) : Int))).toNat = 0 := by omega
    rw [e0, Nat.pow_zero, Nat.mul_one, this]
    omega

end Go.Proofs.Qxb6615185a.Fl
