/-
  PLAIN: what the search does at each step, as rungs.
-/
import Derived.Test.Qxb6615185aPlain
namespace Go.Proofs.Qxb6615185a.Fl
open Ieee
set_option exponentiation.threshold 5000

/-- The chance is reached at 'x'. -/
def good (fs : List Nat) (t p r0 x : Nat) : Prop := (p : Int) ≤ Q (fs.length + 1) (r0 + cnt t x fs)

theorem good_mono {fs : List Nat} {t p r0 x y : Nat} (hn : fs.length ≤ 65536) (hr : r0 ≤ 1) (hf : ∀ f ∈ fs, f < inf) (hxy : x ≤ y) (hy : y < inf) (h : good fs t p r0 x) : good fs t p r0 y := by
  unfold good at h ⊢
  have c := cnt_mono (t := t) hxy hy hf
  have l := cnt_le t y fs
  have q := Q_mono (d := fs.length + 1) (a := r0 + cnt t x fs) (b := r0 + cnt t y fs) (by omega) (by omega) (by omega) (by omega)
  omega

theorem good_cnt {fs : List Nat} {t p r0 x m : Nat} (hn : fs.length ≤ 65536) (hr : r0 ≤ 1) (h1 : (p : Int) ≤ Q (fs.length + 1) (r0 + m))
    (h2 : ∀ j : Nat, j < m → (Q (fs.length + 1) (r0 + j) : Int) < p) : good fs t p r0 x ↔ m ≤ cnt t x fs := by
  unfold good
  have l := cnt_le t x fs
  constructor
  · intro h
    refine Nat.le_of_not_lt fun hlt => ?_
    have := h2 _ hlt; omega
  · intro h
    have q := Q_mono (d := fs.length + 1) (a := r0 + m) (b := r0 + cnt t x fs) (by omega) (by omega) (by omega) (by omega)
    omega

theorem fin_of_key_bounds {v : Nat} (h : ok v) (h1 : -(inf : Int) < key v) (h2 : key v < inf) : fin v := by
  refine ⟨h.1, ?_⟩
  unfold key at h1 h2
  split at h1 <;> rename_i hn
  · omega
  · rw [if_neg hn] at h2; omega

theorem rI_neg_val {r : Nat} (h : r ≤ inf) : rI (-(val r : Int)) = -(r : Int) := by
  rcases Nat.eq_zero_or_pos r with h0 | h0
  · subst h0; rw [val_zero]; decide +kernel
  · have := val_lt h0; have := val_zero
    unfold rI; rw [if_pos (by omega), Int.natAbs_neg, Int.natAbs_natCast, rg_val r h]

/-- A difference of two rungs. -/
theorem sub_rungs {x y : Nat} (hx : x < inf) (hy : y < inf) : ∃ v, double.sub x y = some v ∧ fin v ∧ key v = rI ((val x : Int) - val y) ∧ key v ≤ x ∧ -(y : Int) ≤ key v := by
  have hl := inf_lt
  obtain ⟨v, h1, h2, h3⟩ := sub_key (fin_pos hx) (fin_pos hy)
  rw [iv_pos (by omega), iv_pos (by omega)] at h3
  have u : key v ≤ x := by rw [h3, ← rI_pos_val (r := x) (by omega)]; exact rI_mono (by omega)
  have l : -(y : Int) ≤ key v := by rw [h3, ← rI_neg_val (r := y) (by omega)]; exact rI_mono (by omega)
  exact ⟨v, h1, fin_of_key_bounds h2 (by omega) (by omega), h3, u, l⟩

/-- Down: 'max(0, lo - step)'. -/
theorem down_step {lo st : Nat} (hlo : lo < inf) (h1 : st ≤ inf) :
    ∃ d, double.sub lo st = some d ∧ ok d ∧ key d ≤ lo ∧ (st = inf → key d < 0) := by
  rcases Nat.lt_or_eq_of_le h1 with h | h
  · obtain ⟨v, a1, a2, _, a3, _⟩ := sub_rungs hlo h
    exact ⟨v, a1, a2.ok, a3, fun e => by omega⟩
  · subst h
    refine ⟨_, sub_inf (fin_pos hlo), ?_, ?_, fun _ => ?_⟩
    · have := key_word (neg := true) (r := inf) (Nat.le_refl _); exact this.2
    · have : key (2 ^ 63 + inf) = -(inf : Int) := by decide +kernel
      omega
    · have : key (2 ^ 63 + inf) = -(inf : Int) := by decide +kernel
      have : 0 < inf := by decide
      omega

/-- Up: 'up + step'. -/
theorem up_step {up st : Nat} (hup : up < inf) (h0 : 0 < st) (h1 : st ≤ inf) :
    ∃ s, double.add up st = some s ∧ s ≤ inf ∧ up ≤ s ∧ (st = inf → s = inf) := by
  rcases Nat.lt_or_eq_of_le h1 with h | h
  · refine ⟨_, add_pos' hup h h0, rg_le_inf _ _, ?_, fun e => by omega⟩
    exact rg_ge (by omega) (by omega)
  · subst h
    exact ⟨_, add_inf (fin_pos hup), Nat.le_refl _, by omega, fun _ => rfl⟩

/-- 'step *= 2'. -/
theorem dbl_step {st : Nat} (h0 : 0 < st) (h1 : st ≤ inf) :
    ∃ s, double.mul st two = some s ∧ s ≤ inf ∧ 0 < s ∧ (st < inf → st < s) ∧ (st = inf → s = inf) := by
  rcases Nat.lt_or_eq_of_le h1 with h | h
  · have g := dbl_gt h0 h
    exact ⟨_, mul_two h, rg_le_inf _ _, by omega, fun _ => by omega, fun e => by omega⟩
  · subst h
    exact ⟨_, inf_mul_two, Nat.le_refl _, h0, fun e => by omega, fun _ => rfl⟩

/-- The width of a bracket. -/
def wid (u l : Nat) : Nat := rg (val u - val l) (-1074)
theorem wid_sub {l u : Nat} (h : l < u) (hu : u < inf) : double.sub u l = some (wid u l) ∧ wid u l < inf := by
  obtain ⟨v, h1, h2, h3, h4, _⟩ := sub_rungs hu (Nat.lt_trans h hu)
  have hv := val_lt h
  have e : rI ((val u : Int) - val l) = wid u l := by
    unfold rI wid; rw [if_neg (by omega)]
    rw [show ((val u : Int) - val l).natAbs = val u - val l by omega]
  have pos : 0 < wid u l := rg_ge (r := 1) (by decide) (by have : val 1 = 1 := by decide
                                                           omega)
  rw [e] at h3
  rw [h1, word_of_key h2.ok pos h3]
  exact ⟨rfl, by omega⟩

/-- 50.0, 1000.0 -/
def c50 : Nat := 4632233691727265792
def c1000 : Nat := 4652007308841189376

theorem step_pos {s : Nat} (hs : s0 ≤ s) (hi : s < inf) : ∃ r, double.div s c1000 = some r ∧ 0 < r ∧ r ≤ inf := by
  have hn : 2 ^ 52 ≤ s := Nat.le_trans (by decide) hs
  refine ⟨_, div_norm hn hi (by decide) (by decide), ?_, rg_le_inf _ _⟩
  have hm := mg_norm hn
  have c1 : mg c1000 < 2 ^ 53 := mg_lt _
  have p0 := pl_mono hs
  have sq1 : 2 ^ 54 ≤ sq (mg s) (mg c1000) := by
    unfold sq sd
    have a : 2 ^ 53 * mg c1000 ≤ mg s * 2 ^ 54 := by
      have x : 2 ^ 53 * mg c1000 ≤ 2 ^ 53 * 2 ^ 53 := Nat.mul_le_mul_left _ (Nat.le_of_lt c1)
      have y : 2 ^ 52 * 2 ^ 54 ≤ mg s * 2 ^ 54 := Nat.mul_le_mul_right _ hm
      have e : 2 ^ 53 * 2 ^ 53 = 2 ^ 52 * 2 ^ 54 := by decide
      rw [e] at x
      exact Nat.le_trans x y
    have b : 2 ^ 53 ≤ mg s * 2 ^ 54 / mg c1000 := (Nat.le_div_iff_mul_le (by decide)).2 a
    have e2 : 2 ^ 54 = 2 * 2 ^ 53 := by decide
    omega
  have one : rg 1 (-1074) = 1 := by decide +kernel
  have m : rg 1 (-1074) ≤ rg (sq (mg s) (mg c1000)) ((pl s : Int) - pl c1000 - 55) := by
    have hp : (-1074 : Int) ≤ (pl s : Int) - pl c1000 - 55 := by
      have a : pl s0 = 689 := by decide
      have b : pl c1000 = 1031 := by decide
      omega
    refine rg_mono (-1074) (Int.le_refl _) hp ?_
    rw [show ((-1074 : Int) - -1074).toNat = 0 from rfl, Nat.pow_zero, Nat.mul_one]
    have := Nat.two_pow_pos ((pl s : Int) - pl c1000 - 55 - -1074).toNat
    have x : 1 * 1 ≤ sq (mg s) (mg c1000) * 2 ^ ((pl s : Int) - pl c1000 - 55 - -1074).toNat := Nat.mul_le_mul (by omega) this
    omega
  omega

/-- Halving a finite word, whatever its sign. -/
theorem half_fin {x : Nat} (hx : fin x) : ∃ w, double.div x two = some w ∧ fin w := by
  unfold Format.div
  have ht : rn two = two := rn_pos (by decide)
  have hlt := inf_lt
  have h2 := div_two (x := rn x) hx.2
  unfold Format.div at h2
  rw [read_fin (x := rn x) (by rw [rn_pos (Nat.lt_trans hx.2 hlt)]; exact hx.2), read_fin (x := two) (by rw [ht]; exact two_inf), rn_pos (x := rn x) (Nat.lt_trans hx.2 hlt), ht, ng_pos (x := rn x) (Nat.lt_trans hx.2 hlt), ng_pos (x := two) (by decide)] at h2
  rw [read_fin hx.2, read_fin (x := two) (by rw [ht]; exact two_inf), ht, ng_pos (x := two) (by decide)]
  simp only [Datum.quotient] at h2 ⊢
  have h0 : ¬ mg two = 0 := by rw [mg_two]; decide
  rw [if_neg h0] at h2 ⊢
  simp only [Option.map_some, Bool.xor_false] at h2 ⊢
  refine ⟨_, rfl, ?_⟩
  show fin (double.nearest _ _ _)
  rw [nearest_eq]
  have h3 := Option.some.inj h2
  rw [write_pos] at h3
  rw [h3]
  have hr : rg (val (rn x)) (-1075) ≤ rn x := by
    have : rg (val (rn x)) (-1075) ≤ rg (val (rn x)) (-1074) := by
      refine rg_mono (-1075) (Int.le_refl _) (by omega) ?_
      rw [show ((-1075 : Int) - -1075).toNat = 0 from rfl, show ((-1074 : Int) - -1075).toNat = 1 from rfl, Nat.pow_zero, Nat.mul_one, Nat.pow_one]
      omega
    rw [rg_val _ (Nat.le_of_lt hx.2)] at this; exact this
  have hx2 := hx.2
  obtain ⟨a, b, c⟩ := word_split (neg := ng x) (r := rg (val (rn x)) (-1075)) (by omega)
  exact ⟨c, by rw [a]; omega⟩

end Go.Proofs.Qxb6615185a.Fl
