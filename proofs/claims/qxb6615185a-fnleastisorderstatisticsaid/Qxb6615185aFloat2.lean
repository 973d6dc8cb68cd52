/-
  PLAIN FLOATS, 2: words, keys, order; the operations in terms of rungs.
-/
import Derived.Test.Qxb6615185aFloat
namespace Go.Proofs.Qxb6615185a.Fl
open Ieee

/-- The rung of infinity. -/
def inf : Nat := 2047 * 2 ^ 52
theorem inf_lit : inf = 9218868437227405312 := by decide
theorem inf_lt : inf < 2 ^ 63 := by decide

theorem val_step (r : Nat) : val (r + 1) = val r + 2 ^ pl r := by
  have hP : 0 < 2 ^ 52 := Nat.two_pow_pos _
  have hd := Nat.div_add_mod r (2 ^ 52)
  have hm : r % 2 ^ 52 < 2 ^ 52 := Nat.mod_lt _ hP
  unfold val mg pl
  by_cases hr : r < 2 ^ 52
  · have e : r / 2 ^ 52 = 0 := Nat.div_eq_of_lt hr
    rw [if_pos hr, e]
    by_cases hr1 : r + 1 < 2 ^ 52
    · rw [if_pos hr1, Nat.div_eq_of_lt hr1]; simp
    · have : r + 1 = 2 ^ 52 := by omega
      rw [if_neg hr1, this, Nat.mod_self, Nat.div_self hP]; simp; omega
  · rw [if_neg hr, if_neg (by omega)]
    have hq : 1 ≤ r / 2 ^ 52 := (Nat.le_div_iff_mul_le hP).2 (by omega)
    by_cases hc : r % 2 ^ 52 + 1 < 2 ^ 52
    · have e1 : (r + 1) / 2 ^ 52 = r / 2 ^ 52 := by
        rw [Nat.div_eq_iff hP]; omega
      have e2 : (r + 1) % 2 ^ 52 = r % 2 ^ 52 + 1 := by
        have h3 := Nat.div_add_mod (r + 1) (2 ^ 52); rw [e1] at h3; omega
      rw [e1, e2, show 2 ^ 52 + (r % 2 ^ 52 + 1) = (2 ^ 52 + r % 2 ^ 52) + 1 by omega, Nat.add_mul, Nat.one_mul]
    · have e1 : (r + 1) / 2 ^ 52 = r / 2 ^ 52 + 1 := by
        rw [Nat.div_eq_iff hP]; omega
      have e2 : (r + 1) % 2 ^ 52 = 0 := by
        have h3 := Nat.div_add_mod (r + 1) (2 ^ 52); rw [e1] at h3; omega
      have e3 : r % 2 ^ 52 = 2 ^ 52 - 1 := by omega
      rw [e1, e2, e3]
      generalize r / 2 ^ 52 = q at *
      obtain ⟨q', rfl⟩ : ∃ q', q = q' + 1 := ⟨q - 1, by omega⟩
      simp only [Nat.add_sub_cancel, Nat.add_zero]
      rw [Nat.pow_succ 2 q']
      generalize 2 ^ q' = z
      omega

theorem val_lt {a b : Nat} (h : a < b) : val a < val b := by
  obtain ⟨d, rfl⟩ : ∃ d, b = a + 1 + d := ⟨b - a - 1, by omega⟩
  induction d with
  | zero => rw [Nat.add_zero, val_step]; have := Nat.two_pow_pos (pl a); omega
  | succ d ih => rw [← Nat.add_assoc, val_step]; have := ih (by omega); have := Nat.two_pow_pos (pl (a + 1 + d)); omega

theorem val_le {a b : Nat} (h : a ≤ b) : val a ≤ val b := by
  rcases Nat.lt_or_eq_of_le h with h | h
  · exact Nat.le_of_lt (val_lt h)
  · rw [h]; exact Nat.le_refl _

theorem lt_of_val {a b : Nat} (h : val a < val b) : a < b := by
  rcases Nat.lt_or_ge a b with h' | h'
  · exact h'
  · have := val_le h'; omega

theorem val_zero : val 0 = 0 := by decide

/-- THE ROUNDING AGAINST A RUNG: from below, from above. -/
theorem rg_ge {m : Nat} {r : Nat} (hr : r ≤ inf) (h : val r ≤ m) : r ≤ rg m (-1074) := by
  have := rg_mono_same (-1074) h
  rw [rg_val r hr] at this; exact this
theorem rg_le {m : Nat} {r : Nat} (hr : r ≤ inf) (h : m ≤ val r) : rg m (-1074) ≤ r := by
  have := rg_mono_same (-1074) h
  rw [rg_val r hr] at this; exact this

/-! ### Words -/
def rn (x : Nat) : Nat := x % 2 ^ 63
def ng (x : Nat) : Bool := x / 2 ^ 63 % 2 == 1
/-- A word with no NaN in it; a finite one. -/
def ok (x : Nat) : Prop := x < 2 ^ 64 ∧ rn x ≤ inf
def fin (x : Nat) : Prop := x < 2 ^ 64 ∧ rn x < inf
/-- Where a word stands among all: its rung, negated below zero. -/
def key (x : Nat) : Int := if ng x then -(rn x : Int) else rn x
/-- What a finite word is worth, in units of 2 ^ -1074. -/
def iv (x : Nat) : Int := if ng x then -(val (rn x) : Int) else val (rn x)

theorem ng_pos {x : Nat} (h : x < 2 ^ 63) : ng x = false := by
  unfold ng; rw [Nat.div_eq_of_lt h]; rfl
theorem rn_pos {x : Nat} (h : x < 2 ^ 63) : rn x = x := Nat.mod_eq_of_lt h
theorem key_pos {x : Nat} (h : x < 2 ^ 63) : key x = x := by unfold key; rw [ng_pos h, rn_pos h]; rfl
theorem iv_pos {x : Nat} (h : x < 2 ^ 63) : iv x = val x := by unfold iv; rw [ng_pos h, rn_pos h]; rfl
theorem fin_pos {x : Nat} (h : x < inf) : fin x := ⟨by have := inf_lt; omega, by have := inf_lt; rw [rn_pos (by omega)]; exact h⟩
theorem ok_pos {x : Nat} (h : x ≤ inf) : ok x := ⟨by have := inf_lt; omega, by have := inf_lt; rw [rn_pos (by omega)]; exact h⟩
theorem fin.ok {x : Nat} (h : fin x) : ok x := ⟨h.1, Nat.le_of_lt h.2⟩

theorem word_split {neg : Bool} {r : Nat} (hr : r < 2 ^ 63) : rn (double.word neg r) = r ∧ ng (double.word neg r) = neg ∧ double.word neg r < 2 ^ 64 := by
  have hs : double.signWeight = 2 ^ 63 := rfl
  unfold Format.word; rw [hs]
  cases neg
  · exact ⟨rn_pos hr, ng_pos hr, by simp; omega⟩
  · refine ⟨?_, ?_, by simp; omega⟩
    · show (2 ^ 63 + r) % 2 ^ 63 = r
      rw [Nat.add_mod_left]; exact Nat.mod_eq_of_lt hr
    · show ((2 ^ 63 + r) / 2 ^ 63 % 2 == 1) = true
      have : (2 ^ 63 + r) / 2 ^ 63 = 1 := by rw [Nat.div_eq_iff (by decide)]; omega
      rw [this]; rfl

theorem read_fin {x : Nat} (h : rn x < inf) : double.read x = .number (ng x) (mg (rn x)) (-1074 + (pl (rn x) : Int)) := by
  unfold Format.read
  have e1 : double.signWeight = 2 ^ 63 := rfl
  have e2 : double.binade = 2 ^ 52 := rfl
  have e3 : double.infRung = inf := by decide
  simp only [e1, e2, e3, double_least]
  rw [show x % 2 ^ 63 = rn x from rfl, show (x / 2 ^ 63 % 2 == 1) = ng x from rfl]
  unfold mg pl
  by_cases hr : rn x < 2 ^ 52
  · rw [if_pos hr, if_pos hr, Nat.div_eq_of_lt hr]; rfl
  · rw [if_neg hr, if_neg hr, if_pos h]

theorem read_inf {x : Nat} (h : rn x = inf) : double.read x = .infinity (ng x) := by
  unfold Format.read
  have e1 : double.signWeight = 2 ^ 63 := rfl
  have e2 : double.binade = 2 ^ 52 := rfl
  have e3 : double.infRung = inf := by decide
  simp only [e1, e2, e3, double_least]
  rw [show x % 2 ^ 63 = rn x from rfl, show (x / 2 ^ 63 % 2 == 1) = ng x from rfl, h]
  rw [if_neg (by decide), if_neg (by omega), if_pos rfl]

theorem read_nan {x : Nat} (h : inf < rn x) : (double.read x).isNaN = true := by
  unfold Format.read
  have e1 : double.signWeight = 2 ^ 63 := rfl
  have e2 : double.binade = 2 ^ 52 := rfl
  have e3 : double.infRung = inf := by decide
  have e4 : 2 ^ 52 ≤ inf := by decide
  simp only [e1, e2, e3, double_least]
  rw [show x % 2 ^ 63 = rn x from rfl]
  rw [if_neg (by omega), if_neg (by omega), if_neg (by omega)]; rfl

theorem signed_eq (neg : Bool) (m up : Nat) : signed neg m up = (if neg then -1 else 1) * ((m * 2 ^ up : Nat) : Int) := by
  unfold signed; rw [Nat.shiftLeft_eq]; cases neg <;> simp

theorem signed_scale (neg : Bool) (m a b : Nat) : signed neg m (a + b) = signed neg m a * (2 ^ b : Nat) := by
  rw [signed_eq, signed_eq, Nat.pow_add, ← Nat.mul_assoc]
  simp only [Int.natCast_mul, Int.mul_assoc]

theorem iv_signed (x : Nat) : iv x = signed (ng x) (mg (rn x)) (pl (rn x)) := by
  rw [signed_eq]; unfold iv val; cases ng x <;> simp

/-- How two integers stand. -/
theorem cmp_int (a b : Int) : compare a b = if a < b then .lt else if a = b then .eq else .gt := rfl

theorem cmp_scale (a b : Int) (c : Nat) (hc : 0 < c) : compare (a * c) (b * c) = compare a b := by
  have hc' : (0 : Int) < c := by omega
  rw [cmp_int, cmp_int]
  have e1 : (a * c < b * c) ↔ a < b := Int.mul_lt_mul_right hc'
  have e2 : (a * c = b * c) ↔ a = b := Int.mul_eq_mul_right_iff (by omega)
  simp only [e1, e2]

theorem key_lt_iff {x y : Nat} : iv x < iv y ↔ key x < key y := by
  unfold iv key
  have hv : ∀ a b : Nat, val a < val b ↔ a < b := fun a b => ⟨lt_of_val, val_lt⟩
  have h1 := hv (rn x) (rn y); have h2 := hv (rn y) (rn x)
  have h3 := hv 0 (rn x); have h4 := hv 0 (rn y)
  rw [val_zero] at h3 h4
  cases ng x <;> cases ng y <;> simp only [Bool.false_eq_true, if_false, if_true] <;> omega

theorem key_eq_iff {x y : Nat} : iv x = iv y ↔ key x = key y := by
  have h1 := key_lt_iff (x := x) (y := y); have h2 := key_lt_iff (x := y) (y := x); omega

theorem cmp_iv (x y : Nat) : compare (iv x) (iv y) = compare (key x) (key y) := by
  rw [cmp_int, cmp_int]; simp only [key_lt_iff, key_eq_iff]

/-- THE ORDER OF TWO WORDS IS THAT OF THEIR KEYS. -/
theorem order_key {x y : Nat} (hx : ok x) (hy : ok y) : double.order x y = some (compare (key x) (key y)) := by
  unfold Format.order
  rcases Nat.lt_or_eq_of_le hx.2 with h1 | h1
  · rcases Nat.lt_or_eq_of_le hy.2 with h2 | h2
    · rw [read_fin h1, read_fin h2]
      simp only [Datum.order]
      rw [← cmp_iv, iv_signed, iv_signed]
      generalize pl (rn x) = a; generalize pl (rn y) = b
      have hm : min (-1074 + (a : Int)) (-1074 + (b : Int)) = -1074 + (min a b : Nat) := by omega
      obtain ⟨a', ha⟩ : ∃ a', a = a' + min a b := ⟨a - min a b, by omega⟩
      obtain ⟨b', hb⟩ : ∃ b', b = b' + min a b := ⟨b - min a b, by omega⟩
      rw [hm]
      generalize min a b = c at ha hb ⊢
      subst ha hb
      have e1 : (-1074 + ((a' + c : Nat) : Int) - (-1074 + (c : Int))).toNat = a' := by omega
      have e2 : (-1074 + ((b' + c : Nat) : Int) - (-1074 + (c : Int))).toNat = b' := by omega
      rw [e1, e2, signed_scale, signed_scale, cmp_scale _ _ _ (Nat.two_pow_pos _)]
    · rw [read_fin h1, read_inf h2]
      simp only [Datum.order]
      have kx : -(inf : Int) < key x ∧ key x < inf := by unfold key; split <;> omega
      have ky : key y = if ng y then -(inf : Int) else inf := by unfold key; rw [h2]
      rw [cmp_int, ky]
      cases ng y
      · simp only [Bool.false_eq_true, if_false]; rw [if_pos kx.2]
      · simp only [if_true]; rw [if_neg (by omega), if_neg (by omega)]
  · rcases Nat.lt_or_eq_of_le hy.2 with h2 | h2
    · rw [read_inf h1, read_fin h2]
      simp only [Datum.order]
      have ky : -(inf : Int) < key y ∧ key y < inf := by unfold key; split <;> omega
      have kx : key x = if ng x then -(inf : Int) else inf := by unfold key; rw [h1]
      rw [cmp_int, kx]
      cases ng x
      · simp only [Bool.false_eq_true, if_false]; rw [if_neg (by omega), if_neg (by omega)]
      · simp only [if_true]; rw [if_pos ky.1]
    · rw [read_inf h1, read_inf h2]
      simp only [Datum.order]
      have kx : key x = if ng x then -(inf : Int) else inf := by unfold key; rw [h1]
      have ky : key y = if ng y then -(inf : Int) else inf := by unfold key; rw [h2]
      have hi : (0 : Int) < inf := by decide
      rw [cmp_int, kx, ky]
      cases ng x <;> cases ng y <;> simp only [Bool.false_eq_true, if_false, if_true]
      · rw [if_neg (by omega)]; rfl
      · rw [if_neg (by omega), if_neg (by omega)]; rfl
      · rw [if_pos (by omega)]; rfl
      · rw [if_neg (by omega)]; rfl

theorem order_nan_left {x y : Nat} (h : inf < rn x) : double.order x y = none := by
  unfold Format.order
  have := read_nan h
  cases hd : double.read x with
  | nan s f => cases double.read y <;> rfl
  | number => rw [hd] at this; cases this
  | infinity => rw [hd] at this; cases this

theorem order_nan_right {x y : Nat} (h : inf < rn y) : double.order x y = none := by
  unfold Format.order
  have := read_nan h
  cases hd : double.read y with
  | nan s f => cases double.read x <;> rfl
  | number => rw [hd] at this; cases this
  | infinity => rw [hd] at this; cases this

end Go.Proofs.Qxb6615185a.Fl
