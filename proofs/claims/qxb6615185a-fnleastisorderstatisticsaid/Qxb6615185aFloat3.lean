/-
  PLAIN FLOATS, 3: sums, products, quotients in terms of keys and rungs.
-/
import Derived.Test.Qxb6615185aFloat2
namespace Go.Proofs.Qxb6615185a.Fl
open Ieee
set_option exponentiation.threshold 5000

/-- The key to which an exact number of units of 2 ^ -1074 is rounded. -/
def rI (T : Int) : Int := if T < 0 then -(rg T.natAbs (-1074) : Int) else rg T.natAbs (-1074)

theorem rI_mono {a b : Int} (h : a ≤ b) : rI a ≤ rI b := by
  unfold rI
  by_cases ha : a < 0
  · rw [if_pos ha]
    by_cases hb : b < 0
    · rw [if_pos hb]
      have := rg_mono_same (-1074) (m1 := b.natAbs) (m2 := a.natAbs) (by omega)
      omega
    · rw [if_neg hb]; omega
  · rw [if_neg ha, if_neg (by omega)]
    have := rg_mono_same (-1074) (m1 := a.natAbs) (m2 := b.natAbs) (by omega)
    omega

theorem rI_iv {x : Nat} (h : rn x ≤ inf) : rI (iv x) = key x := by
  unfold rI iv key
  have e := rg_val (rn x) h
  have z := val_zero
  cases ng x
  · simp only [Bool.false_eq_true, if_false]
    rw [if_neg (by omega), Int.natAbs_natCast, e]
  · simp only [if_true]
    rw [Int.natAbs_neg, Int.natAbs_natCast, e]
    split
    · rfl
    · rename_i hn
      have h0 : val (rn x) = 0 := by omega
      have : rn x = 0 := by
        rcases Nat.eq_zero_or_pos (rn x) with h' | h'
        · exact h'
        · have := val_lt h'; omega
      rw [this]; rfl

theorem rI_nonneg {T : Int} : 0 ≤ rI T ↔ 0 ≤ T := by
  constructor
  · intro h
    by_cases hT : T < 0
    · unfold rI at h; rw [if_pos hT] at h
      have h1 : 1 ≤ rg T.natAbs (-1074) := rg_ge (by decide) (by have : val 1 = 1 := by decide
                                                                 omega)
      omega
    · omega
  · intro h
    unfold rI; rw [if_neg (by omega)]; omega

theorem rI_pos_val {r : Nat} (h : r ≤ inf) : rI (val r) = r := by
  unfold rI; rw [if_neg (by omega), Int.natAbs_natCast, rg_val r h]

theorem key_word {neg : Bool} {r : Nat} (hr : r ≤ inf) : key (double.word neg r) = (if neg then -(r : Int) else r) ∧ ok (double.word neg r) := by
  have hl := inf_lt
  obtain ⟨h1, h2, h3⟩ := word_split (neg := neg) (r := r) (by omega)
  exact ⟨by unfold key; rw [h1, h2], h3, by rw [h1]; exact hr⟩

theorem signed_neg (s : Bool) (m u : Nat) : signed (!s) m u = - signed s m u := by
  unfold signed; cases s <;> simp

/-- The sum of two finite data of places '-1074 + a', '-1074 + b', written. -/
theorem sum_write (s t : Bool) (m n a b : Nat) :
    ∃ w, ((Datum.number s m (-1074 + (a : Int))).sum (.number t n (-1074 + (b : Int)))).map double.write = some w ∧ ok w ∧ key w = rI (signed s m a + signed t n b) := by
  obtain ⟨a', ha⟩ : ∃ a', a = a' + min a b := ⟨a - min a b, by omega⟩
  obtain ⟨b', hb⟩ : ∃ b', b = b' + min a b := ⟨b - min a b, by omega⟩
  have hm : min (-1074 + (a : Int)) (-1074 + (b : Int)) = -1074 + (min a b : Nat) := by omega
  simp only [Datum.sum, Option.map_some]
  rw [hm]
  generalize min a b = c at ha hb ⊢
  subst ha hb
  have e1 : (-1074 + ((a' + c : Nat) : Int) - (-1074 + (c : Int))).toNat = a' := by omega
  have e2 : (-1074 + ((b' + c : Nat) : Int) - (-1074 + (c : Int))).toNat = b' := by omega
  rw [e1, e2, signed_scale, signed_scale, ← Int.add_mul]
  generalize signed s m a' + signed t n b' = T
  refine ⟨_, rfl, ?_⟩
  show ok (double.nearest _ _ _) ∧ key (double.nearest _ _ _) = _
  rw [nearest_eq, ← rg_scale]
  have hk := key_word (neg := if T = 0 then s && t else decide (T < 0)) (rg_le_inf (T.natAbs * 2 ^ c) (-1074))
  have hp : (0 : Int) < (2 ^ c : Nat) := by have := Nat.two_pow_pos c; omega
  have hab : (T * (2 ^ c : Nat)).natAbs = T.natAbs * 2 ^ c := by rw [Int.natAbs_mul, Int.natAbs_natCast]
  refine ⟨hk.2, ?_⟩
  rw [hk.1]
  unfold rI
  rw [hab]
  by_cases h0 : T = 0
  · subst h0; simp [rg]
  · rw [if_neg h0]
    by_cases hT : T < 0
    · have : T * (2 ^ c : Nat) < 0 := Int.mul_neg_of_neg_of_pos hT hp
      rw [if_pos this]; simp [hT]
    · have : ¬ T * (2 ^ c : Nat) < 0 := by have := Int.mul_nonneg (a := T) (by omega) (Int.le_of_lt hp); omega
      rw [if_neg this]; simp [hT]

theorem add_key {x y : Nat} (hx : fin x) (hy : fin y) : ∃ w, double.add x y = some w ∧ ok w ∧ key w = rI (iv x + iv y) := by
  unfold Format.add
  rw [read_fin hx.2, read_fin hy.2, iv_signed, iv_signed]
  exact sum_write _ _ _ _ _ _

theorem sub_key {x y : Nat} (hx : fin x) (hy : fin y) : ∃ w, double.sub x y = some w ∧ ok w ∧ key w = rI (iv x - iv y) := by
  unfold Format.sub
  rw [read_fin hx.2, read_fin hy.2, iv_signed, iv_signed]
  obtain ⟨w, h1, h2, h3⟩ := sum_write (ng x) (!ng y) (mg (rn x)) (mg (rn y)) (pl (rn x)) (pl (rn y))
  exact ⟨w, h1, h2, by rw [h3, signed_neg]; rfl⟩

theorem sub_inf {x : Nat} (hx : fin x) : double.sub x inf = some (2 ^ 63 + inf) := by
  unfold Format.sub
  have h : rn inf = inf := rn_pos inf_lt
  rw [read_fin hx.2, read_inf h, ng_pos inf_lt]
  have e : double.word true double.infRung = 2 ^ 63 + inf := by decide
  exact congrArg some e

theorem add_inf {x : Nat} (hx : fin x) : double.add x inf = some inf := by
  unfold Format.add
  have h : rn inf = inf := rn_pos inf_lt
  rw [read_fin hx.2, read_inf h, ng_pos inf_lt]
  have e : double.word false double.infRung = inf := by decide
  exact congrArg some e

theorem write_pos (m : Nat) (p : Int) : double.write (.number false m p) = rg m p := by
  show double.nearest false m p = _
  rw [nearest_eq]; unfold Format.word; rw [if_neg (by decide)]

theorem mul_pos {x y : Nat} (hx : x < inf) (hy : y < inf) : double.mul x y = some (rg (val x * val y) (-2148)) := by
  have hl := inf_lt
  unfold Format.mul
  have hx' : rn x = x := rn_pos (by omega)
  have hy' : rn y = y := rn_pos (by omega)
  rw [read_fin (x := x) (by omega), read_fin (x := y) (by omega), hx', hy', ng_pos (x := x) (by omega), ng_pos (x := y) (by omega)]
  simp only [Datum.product, Option.map_some, Bool.xor_false]
  rw [write_pos]
  have e : -1074 + (pl x : Int) + (-1074 + (pl y : Int)) = -2148 + ((pl x + pl y : Nat) : Int) := by omega
  rw [e, ← rg_scale]
  unfold val
  rw [Nat.pow_add, show mg x * mg y * (2 ^ pl x * 2 ^ pl y) = mg x * 2 ^ pl x * (mg y * 2 ^ pl y) from Nat.mul_mul_mul_comm _ _ _ _]

theorem mul_mono {a b f : Nat} (h : a ≤ b) : rg (val a * val f) (-2148) ≤ rg (val b * val f) (-2148) :=
  rg_mono_same _ (Nat.mul_le_mul_right _ (val_le h))

/-- A negative times a positive is not above zero. -/
theorem mul_neg {x y : Nat} (hx : fin x) (hn : ng x = true) (hy : y < inf) : ∃ w, double.mul x y = some w ∧ ok w ∧ key w ≤ 0 := by
  have hl := inf_lt
  unfold Format.mul
  have hy' : rn y = y := rn_pos (by omega)
  rw [read_fin hx.2, read_fin (x := y) (by omega), hn, ng_pos (x := y) (by omega)]
  simp only [Datum.product, Option.map_some, Bool.xor_false]
  refine ⟨_, rfl, ?_⟩
  show ok (double.nearest _ _ _) ∧ key (double.nearest _ _ _) ≤ 0
  rw [nearest_eq]
  have hk := key_word (neg := true) (rg_le_inf (mg (rn x) * mg (rn y)) (-1074 + (pl (rn x) : Int) + (-1074 + (pl (rn y) : Int))))
  refine ⟨hk.2, ?_⟩
  rw [hk.1]; simp

/-- 2.0 -/
def two : Nat := 4611686018427387904
theorem mg_two : mg two = 2 ^ 52 := by decide
theorem pl_two : pl two = 1023 := by decide
theorem val_two : val two = 2 ^ 1075 := by unfold val; rw [mg_two, pl_two, ← Nat.pow_add]
theorem two_inf : two < inf := by decide

theorem mul_two {x : Nat} (hx : x < inf) : double.mul x two = some (rg (2 * val x) (-1074)) := by
  rw [mul_pos hx two_inf, val_two, rg_scale, Nat.mul_comm 2 (val x), show (2 : Nat) = 2 ^ 1 from rfl, rg_scale]
  rfl
theorem two_mul {x : Nat} (hx : x < inf) : double.mul two x = some (rg (2 * val x) (-1074)) := by
  rw [mul_pos two_inf hx, val_two, Nat.mul_comm, rg_scale, Nat.mul_comm 2 (val x), show (2 : Nat) = 2 ^ 1 from rfl, rg_scale]
  rfl
theorem inf_mul_two : double.mul inf two = some inf := by decide +kernel

theorem mg_pos {x : Nat} (h : 0 < x) : 0 < mg x := by
  unfold mg; split
  · exact h
  · have := Nat.two_pow_pos 52; omega

/-- A step that is doubled climbs at least one rung. -/
theorem dbl_gt {x : Nat} (h0 : 0 < x) (hx : x < inf) : x + 1 ≤ rg (2 * val x) (-1074) := by
  refine rg_ge (by omega) ?_
  rw [val_step]
  have h1 : 2 ^ pl x ≤ val x := by
    unfold val; have := Nat.mul_le_mul_right (2 ^ pl x) (mg_pos h0); rw [Nat.one_mul] at this; exact this
  omega

theorem mg_lt (x : Nat) : mg x < 2 ^ 53 := by
  unfold mg; have := Nat.mod_lt x (Nat.two_pow_pos 52); split <;> omega

theorem log2_le_52 (m : Nat) (h : m < 2 ^ 53) : m.log2 ≤ 52 := by
  by_cases h0 : m = 0
  · subst h0; decide
  · have := (Nat.log2_lt h0).2 h; omega

theorem div_two {x : Nat} (hx : x < inf) : double.div x two = some (rg (val x) (-1075)) := by
  have hl := inf_lt
  unfold Format.div
  have hx' : rn x = x := rn_pos (by omega)
  have ht : rn two = two := rn_pos (by decide)
  rw [read_fin (x := x) (by omega), read_fin (x := two) (by rw [ht]; exact two_inf), hx', ht, ng_pos (x := x) (by omega), ng_pos (x := two) (by decide), mg_two, pl_two]
  have hlog := log2_le_52 (mg x) (mg_lt x)
  have e52 : (2 ^ 52 : Nat).log2 = 52 := by decide
  have efb : double.fractionBits + 2 = 54 := rfl
  simp only [Datum.quotient, efb, e52]
  rw [if_neg (by decide)]
  simp only [Option.map_some, Bool.xor_false]
  rw [write_pos, Nat.shiftLeft_eq]
  obtain ⟨k, hk⟩ : ∃ k, 54 + 52 - (mg x).log2 = k + 52 := ⟨54 - (mg x).log2, by omega⟩
  rw [hk, Nat.pow_add, ← Nat.mul_assoc, Nat.mul_div_cancel _ (Nat.two_pow_pos _), Nat.mul_mod_left]
  have e1 : 2 * (mg x * 2 ^ k) + (0 != 0).toNat = mg x * 2 ^ (k + 1) := by
    rw [Nat.pow_succ, ← Nat.mul_assoc (mg x), Nat.mul_comm (mg x * 2 ^ k) 2]; rfl
  rw [e1, rg_scale]
  unfold val
  rw [rg_scale]
  have e2 : -1074 + (pl x : Int) - (-1074 + ((1023 : Nat) : Int)) - ((k + 52 : Nat) : Int) - 1 + ((k + 1 : Nat) : Int) = -1075 + (pl x : Int) := by omega
  rw [e2]

end Go.Proofs.Qxb6615185a.Fl
