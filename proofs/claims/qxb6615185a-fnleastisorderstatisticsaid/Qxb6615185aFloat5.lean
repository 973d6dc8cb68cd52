/-
  PLAIN FLOATS, 5: midpoints of a bracket; when a bracket is narrow; the way out of the search.
-/
import Derived.Test.Qxb6615185aFloat4
namespace Go.Proofs.Qxb6615185a.Fl
open Ieee
set_option exponentiation.threshold 5000

/-! ### Twice a rung -/
theorem dbl_arith (P r : Nat) (hP : 0 < P) : (r + P) % P = r % P ∧ (r + P) / P = r / P + 1 :=
  ⟨Nat.add_mod_right r P, Nat.add_div_right r hP⟩

theorem val_dbl_hi {r : Nat} (h : 2 ^ 52 ≤ r) : val (r + 2 ^ 52) = 2 * val r := by
  obtain ⟨e1, e2⟩ := dbl_arith (2 ^ 52) r (Nat.two_pow_pos _)
  have hq : 1 ≤ r / 2 ^ 52 := (Nat.le_div_iff_mul_le (Nat.two_pow_pos _)).2 (by rw [Nat.one_mul]; exact h)
  unfold val mg pl
  rw [if_neg (Nat.not_lt.2 (Nat.le_add_left _ _)), if_neg (Nat.not_lt.2 h), e1, e2]
  obtain ⟨q, hq'⟩ : ∃ q, r / 2 ^ 52 = q + 1 := ⟨r / 2 ^ 52 - 1, by omega⟩
  rw [hq', Nat.add_sub_cancel, Nat.add_sub_cancel, Nat.pow_succ 2 q, Nat.mul_comm (2 ^ q) 2, ← Nat.mul_assoc, Nat.mul_comm _ 2, Nat.mul_assoc]

theorem val_dbl_lo {r : Nat} (h : r < 2 ^ 52) : val (2 * r) = 2 * val r := by
  have e0 : val r = r := by
    unfold val mg pl; rw [if_pos h, Nat.div_eq_of_lt h]; simp
  rw [e0]
  unfold val mg pl
  by_cases h1 : 2 * r < 2 ^ 52
  · rw [if_pos h1, Nat.div_eq_of_lt h1]; simp
  · obtain ⟨f, hf⟩ : ∃ f, 2 * r = f + 2 ^ 52 := ⟨2 * r - 2 ^ 52, (Nat.sub_add_cancel (Nat.le_of_not_lt h1)).symm⟩
    have hfl : f < 2 ^ 52 := by omega
    obtain ⟨e1, e2⟩ := dbl_arith (2 ^ 52) f (Nat.two_pow_pos _)
    rw [if_neg h1, hf, e1, e2, Nat.mod_eq_of_lt hfl, Nat.div_eq_of_lt hfl]; simp; omega

/-- The rung of twice a rung's worth. -/
def dbl (r : Nat) : Nat := if r < 2 ^ 52 then 2 * r else r + 2 ^ 52
theorem val_dbl (r : Nat) : val (dbl r) = 2 * val r := by
  unfold dbl; split
  · rename_i h; exact val_dbl_lo h
  · rename_i h; exact val_dbl_hi (Nat.le_of_not_lt h)

theorem rg_half (m : Nat) : rg (2 * m) (-1075) = rg m (-1074) := by
  have := rg_scale m 1 (-1075)
  rw [Nat.pow_one, Nat.mul_comm] at this
  exact this

/-! ### Between two rungs -/
theorem pl_two_up (r : Nat) : pl (r + 2) ≤ pl r + 1 := by
  unfold pl
  have : (r + 2) / 2 ^ 52 ≤ (r + 2 ^ 52) / 2 ^ 52 := Nat.div_le_div_right (Nat.add_le_add_left (by decide) _)
  rw [Nat.add_div_right r (Nat.two_pow_pos _)] at this
  omega

theorem mid_bounds {l u : Nat} (h : l + 3 ≤ u) : 2 * val (l + 1) ≤ val l + val u ∧ val l + val u ≤ 2 * val (u - 1) := by
  obtain ⟨v, rfl⟩ : ∃ v, u = v + 3 := ⟨u - 3, by omega⟩
  have hlv : l ≤ v := by omega
  constructor
  · have s1 := val_step l
    have s2 := val_step (l + 1)
    have p1 : 2 ^ pl l ≤ 2 ^ pl (l + 1) := Nat.pow_le_pow_right (by omega) (pl_mono (by omega))
    have v1 : val (l + 1 + 1) ≤ val (v + 3) := val_le (by omega)
    omega
  · rw [show v + 3 - 1 = v + 2 from rfl]
    have s1 := val_step v
    have s2 := val_step (v + 1)
    have s3 := val_step (v + 2)
    have p1 : 2 ^ pl v ≤ 2 ^ pl (v + 1) := Nat.pow_le_pow_right (by omega) (pl_mono (by omega))
    have p2 : 2 ^ pl (v + 2) ≤ 2 ^ (pl v + 1) := Nat.pow_le_pow_right (by omega) (pl_two_up v)
    rw [Nat.pow_succ] at p2
    have v1 : val l ≤ val v := val_le hlv
    rw [show v + 1 + 1 = v + 2 from rfl] at s2
    rw [show v + 2 + 1 = v + 3 from rfl] at s3
    omega

/-- The sum of two rungs is a rung (or infinity). -/
theorem add_pos {l u : Nat} (hl : l < inf) (hu : u < inf) : double.add l u = some (rg (val l + val u) (-1074)) ∨ (l = 0 ∧ u = 0 ∧ double.add l u = some 0) := by
  obtain ⟨w, h1, h2, h3⟩ := add_key (fin_pos hl) (fin_pos hu)
  have hlt := inf_lt
  rw [iv_pos (by omega), iv_pos (by omega), ← Int.natCast_add] at h3
  have e : rI ((val l + val u : Nat) : Int) = rg (val l + val u) (-1074) := by
    unfold rI; rw [if_neg (by omega), Int.natAbs_natCast]
  rw [e] at h3
  by_cases h0 : l = 0 ∧ u = 0
  · right; obtain ⟨rfl, rfl⟩ := h0; exact ⟨rfl, rfl, by decide +kernel⟩
  · left
    have hpos : 0 < rg (val l + val u) (-1074) := by
      refine rg_ge (r := 1) (by decide) ?_
      have v1 : val 1 = 1 := by decide
      have z := val_zero
      rcases Nat.eq_zero_or_pos l with h | h
      · have hu0 : 0 < u := by omega
        have := val_lt hu0; omega
      · have := val_lt h; omega
    rw [h1, word_of_key h2 hpos h3]

theorem add_pos' {l u : Nat} (hl : l < inf) (hu : u < inf) (hu0 : 0 < u) : double.add l u = some (rg (val l + val u) (-1074)) := by
  rcases add_pos hl hu with h | ⟨_, h, _⟩
  · exact h
  · omega

/-- HALVING, no overflow: '(lo + up) / 2' lies strictly between. -/
theorem mid_one {l u : Nat} (h : l + 3 ≤ u) (hu : u < inf) (hs : rg (val l + val u) (-1074) < inf) :
    ∃ a, double.div (rg (val l + val u) (-1074)) two = some a ∧ l < a ∧ a < u := by
  obtain ⟨b1, b2⟩ := mid_bounds h
  refine ⟨_, div_two hs, ?_, ?_⟩
  · have h1 : 2 * val (l + 1) ≤ val (rg (val l + val u) (-1074)) := by
      rw [← val_dbl] at b1 ⊢
      refine val_le ?_
      by_cases hd : dbl (l + 1) ≤ inf
      · exact rg_ge hd b1
      · have : inf ≤ rg (val l + val u) (-1074) := rg_ge (Nat.le_refl _) (Nat.le_trans (val_le (by omega)) b1)
        omega
    have h2 := rg_mono_same (-1075) h1
    rw [rg_half, rg_val _ (by unfold inf at hu; omega)] at h2
    omega
  · have h1 : val (rg (val l + val u) (-1074)) ≤ 2 * val (u - 1) := by
      rw [← val_dbl] at b2 ⊢
      refine val_le ?_
      by_cases hd : dbl (u - 1) ≤ inf
      · exact rg_le hd b2
      · omega
    have h2 := rg_mono_same (-1075) h1
    rw [rg_half, rg_val _ (by unfold inf at hu; omega)] at h2
    omega

theorem rg_inf_large {T : Nat} (h : rg T (-1074) = inf) : val (inf - 1) + 2 ^ 54 < T := by
  refine Nat.lt_of_not_le fun hT => ?_
  have h1 := rg_mono_same (-1074) hT
  have h2 : rg (val (inf - 1) + 2 ^ 54) (-1074) = inf - 1 := by decide +kernel
  rw [h, h2] at h1
  have : 0 < inf := by decide
  omega

theorem div_two_exact {r : Nat} (h : 2 ^ 53 ≤ r) (hr : r < inf) : double.div r two = some (r - 2 ^ 52) ∧ 2 * val (r - 2 ^ 52) = val r := by
  obtain ⟨c, rfl⟩ : ∃ c, r = c + 2 ^ 52 := ⟨r - 2 ^ 52, by omega⟩
  have hc : 2 ^ 52 ≤ c := by omega
  have e := val_dbl_hi hc
  rw [Nat.add_sub_cancel, div_two hr, e, rg_half, rg_val c (by unfold inf at hr; omega)]
  exact ⟨rfl, rfl⟩

/-- HALVING where the sum overflows: 'lo/2 + up/2' lies strictly between. -/
theorem mid_two {l u : Nat} (h : l + 3 ≤ u) (hu : u < inf) (hs : rg (val l + val u) (-1074) = inf) :
    ∃ b c a, double.div l two = some b ∧ double.div u two = some c ∧ double.add b c = some a ∧ l < a ∧ a < u := by
  obtain ⟨b1, b2⟩ := mid_bounds h
  have hL := rg_inf_large hs
  have hv : val u ≤ val (inf - 1) := val_le (by omega)
  have hl : 2 ^ 53 ≤ l := by
    refine Nat.le_of_not_lt fun hlt => ?_
    have := val_lt hlt
    have e : val (2 ^ 53) = 2 ^ 53 := by decide
    have e2 : (2 : Nat) ^ 53 ≤ 2 ^ 54 := by decide
    rw [e] at this
    omega
  obtain ⟨d1, d2⟩ := div_two_exact hl (by omega)
  obtain ⟨d3, d4⟩ := div_two_exact (r := u) (by omega) hu
  have hpos : 0 < u - 2 ^ 52 := by omega
  refine ⟨_, _, _, d1, d3, add_pos' (by omega) (by omega) hpos, ?_, ?_⟩
  · have : l + 1 ≤ rg (val (l - 2 ^ 52) + val (u - 2 ^ 52)) (-1074) := rg_ge (by omega) (by omega)
    omega
  · have : rg (val (l - 2 ^ 52) + val (u - 2 ^ 52)) (-1074) ≤ u - 1 := rg_le (by omega) (by omega)
    omega

theorem inf_div_two : double.div inf two = some inf := by decide +kernel

/-! ### The width of a bracket -/
/-- 1e-9, 1e-100 -/
def c9 : Nat := 4472406533629990549
def s0 : Nat := 3110860544497550640
theorem c9_lo : 2 ^ 1044 ≤ val c9 := by decide +kernel
theorem c9_hi : val c9 ≤ 2 ^ 1072 := by decide +kernel
theorem s0_lo : 2 ^ 700 ≤ val s0 := by decide +kernel

/-- What a bracket must not be wider than. -/
def tol (m : Nat) : Nat := rg (val c9 * val m) (-2148)
theorem tol_mono {a b : Nat} (h : a ≤ b) : tol a ≤ tol b := rg_mono_same _ (Nat.mul_le_mul_left _ (val_le h))
theorem c9_inf : c9 < inf := by decide
theorem tol_mul {m : Nat} (h : m < inf) : double.mul c9 m = some (tol m) := mul_pos c9_inf h

/-- While the search goes on at least two rungs lie between the ends. -/
theorem wide {l u m : Nat} (hlu : l ≤ u) (hlm : l ≤ m) (hm : s0 ≤ m) (h : tol m < rg (val u - val l) (-1074)) : l + 3 ≤ u := by
  refine Nat.le_of_not_lt fun hlt => ?_
  refine absurd h (Nat.not_lt.2 ?_)
  have v1 : val u ≤ val (l + 2) := val_le (by omega)
  have s1 := val_step l
  have s2 := val_step (l + 1)
  rw [show l + 1 + 1 = l + 2 from rfl] at s2
  have p2 : 2 ^ pl (l + 1) ≤ 2 ^ (pl l + 1) := Nat.pow_le_pow_right (by omega) (Nat.le_trans (pl_mono (by omega)) (pl_two_up l))
  rw [Nat.pow_succ] at p2
  have w : val u - val l ≤ 3 * 2 ^ pl l := by omega
  have big : 3 * 2 ^ pl l * 2 ^ 30 ≤ val m := by
    by_cases hn : l < 2 ^ 52
    · have e : pl l = 0 := by unfold pl; rw [Nat.div_eq_of_lt hn]
      rw [e]
      exact Nat.le_trans (by decide +kernel) (Nat.le_trans s0_lo (val_le hm))
    · have a : 2 ^ 52 * 2 ^ pl l ≤ val l := by
        unfold val; exact Nat.mul_le_mul_right _ (mg_norm (Nat.le_of_not_lt hn))
      have b := val_le hlm
      have c : 3 * 2 ^ pl l * 2 ^ 30 ≤ 2 ^ 52 * 2 ^ pl l := by
        rw [Nat.mul_assoc, Nat.mul_comm (2 ^ pl l), ← Nat.mul_assoc]
        exact Nat.mul_le_mul_right _ (by decide)
      omega
  unfold tol
  refine rg_mono (-2148) (by omega) (by omega) ?_
  rw [show ((-1074 : Int) - -2148).toNat = 1074 from rfl, show ((-2148 : Int) - -2148).toNat = 0 from rfl, Nat.pow_zero, Nat.mul_one]
  have x1 : (val u - val l) * 2 ^ 1074 ≤ 3 * 2 ^ pl l * 2 ^ 1074 := Nat.mul_le_mul_right _ w
  have x2 : 3 * 2 ^ pl l * 2 ^ 1074 = 2 ^ 1044 * (3 * 2 ^ pl l * 2 ^ 30) := by
    rw [show (1074 : Nat) = 30 + 1044 from rfl, Nat.pow_add, ← Nat.mul_assoc, Nat.mul_comm]
  have x3 : 2 ^ 1044 * (3 * 2 ^ pl l * 2 ^ 30) ≤ val c9 * val m := Nat.mul_le_mul c9_lo big
  rw [x2] at x1
  exact Nat.le_trans x1 x3

theorem tol_bounds {m : Nat} (hm : s0 ≤ m) (hi : m < inf) : 0 < tol m ∧ tol m ≤ inf - 2 * 2 ^ 52 := by
  constructor
  · have : rg 1 (-1074) ≤ tol m := by
      unfold tol
      refine rg_mono (-2148) (by omega) (by omega) ?_
      rw [show ((-1074 : Int) - -2148).toNat = 1074 from rfl, show ((-2148 : Int) - -2148).toNat = 0 from rfl, Nat.pow_zero, Nat.mul_one, Nat.one_mul]
      have x3 : 2 ^ 1044 * 2 ^ 700 ≤ val c9 * val m := Nat.mul_le_mul c9_lo (Nat.le_trans s0_lo (val_le hm))
      rw [← Nat.pow_add] at x3
      exact Nat.le_trans (Nat.pow_le_pow_right (by omega) (by decide)) x3
    have e : rg 1 (-1074) = 1 := by decide +kernel
    omega
  · have h1 : tol m ≤ rg (val inf) (-1076) := by
      unfold tol
      refine rg_mono (-2148) (by omega) (by omega) ?_
      rw [show ((-1076 : Int) - -2148).toNat = 1072 from rfl, show ((-2148 : Int) - -2148).toNat = 0 from rfl, Nat.pow_zero, Nat.mul_one, Nat.mul_comm (val inf)]
      exact Nat.mul_le_mul c9_hi (val_le (Nat.le_of_lt hi))
    have e : rg (val inf) (-1076) = inf - 2 * 2 ^ 52 := by decide +kernel
    omega

/-- THE WAY OUT: what lies '2e-9 max(scale, up)' below the upper end lies at or below the lower one. -/
theorem exit_below {l u m M : Nat} (hlu : l < u) (hu : u < inf) (hM : s0 ≤ M) (hMi : M < inf) (hmM : m ≤ M)
    (h : rg (val u - val l) (-1074) ≤ tol m) :
    ∃ t b, double.mul two (tol M) = some t ∧ double.sub u t = some b ∧ fin b ∧ key b ≤ l := by
  obtain ⟨t0, t1⟩ := tol_bounds hM hMi
  have hi2 : 2 * 2 ^ 52 < inf := by decide
  have htf : tol M < inf := by omega
  have hd : dbl (tol M) < inf := by unfold dbl; split <;> omega
  have ht : double.mul two (tol M) = some (dbl (tol M)) := by
    rw [two_mul htf, ← val_dbl, rg_val _ (by unfold inf at hd; omega)]
  have hw : val u - val l ≤ 2 * val (tol M) := by
    refine Nat.le_of_not_lt fun hlt => ?_
    have a := rg_mono_same (-1074) (Nat.le_of_lt hlt)
    have b := dbl_gt t0 htf
    have c := tol_mono hmM
    omega
  obtain ⟨b, h1, h2, h3⟩ := sub_key (fin_pos hu) (fin_pos hd)
  have hlt := inf_lt
  rw [iv_pos (by omega), iv_pos (by omega), val_dbl] at h3
  refine ⟨_, b, ht, h1, ?_, ?_⟩
  · have lo : -(dbl (tol M) : Int) ≤ key b := by
      rw [h3]
      have : rI (-((val (dbl (tol M)) : Nat) : Int)) ≤ rI (val u - ((2 * val (tol M) : Nat) : Int)) := rI_mono (by rw [val_dbl]; omega)
      have e : rI (-((val (dbl (tol M)) : Nat) : Int)) = -(dbl (tol M) : Int) := by
        have hz : 0 < val (dbl (tol M)) := by
          rw [val_dbl]; have := val_lt t0; have := val_zero; omega
        unfold rI; rw [if_pos (by omega), Int.natAbs_neg, Int.natAbs_natCast, rg_val _ (by unfold inf at hd; omega)]
      omega
    have up : key b ≤ u := by
      rw [h3, ← rI_pos_val (r := u) (by omega)]
      exact rI_mono (by omega)
    refine ⟨h2.1, ?_⟩
    unfold key at lo up
    split at lo <;> rename_i hn
    · omega
    · rw [if_neg hn] at up; omega
  · rw [h3, ← rI_pos_val (r := l) (by omega)]
    exact rI_mono (by omega)

end Go.Proofs.Qxb6615185a.Fl
