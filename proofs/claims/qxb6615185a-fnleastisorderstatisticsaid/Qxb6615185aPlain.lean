/-
  PLAIN: how many ratios an allocation meets; it grows with the allocation.
-/
import Derived.Test.Qxb6615185aFloat5
namespace Go.Proofs.Qxb6615185a.Fl
open Ieee
set_option exponentiation.threshold 5000

theorem mul_fin {x y : Nat} (hx : fin x) (hy : fin y) : ∃ w, double.mul x y = some w ∧ ok w := by
  unfold Format.mul
  rw [read_fin hx.2, read_fin hy.2]
  simp only [Datum.product, Option.map_some]
  refine ⟨_, rfl, ?_⟩
  show ok (double.nearest _ _ _)
  rw [nearest_eq]
  exact (key_word (rg_le_inf _ _)).2

/-- The product of two finite words. -/
def fmul (x y : Nat) : Nat := (double.mul x y).getD 0
theorem fmul_eq {x y : Nat} (hx : fin x) (hy : fin y) : double.mul x y = some (fmul x y) ∧ ok (fmul x y) := by
  obtain ⟨w, h1, h2⟩ := mul_fin hx hy
  have : fmul x y = w := by unfold fmul; rw [h1]; rfl
  rw [this]; exact ⟨h1, h2⟩
theorem fmul_pos {x y : Nat} (hx : x < inf) (hy : y < inf) : fmul x y = rg (val x * val y) (-2148) := by
  unfold fmul; rw [mul_pos hx hy]; rfl

/-- Does the allocation 'a' meet the ratio 'f'? -/
def hit (t a f : Nat) : Bool := decide (key t ≤ key (fmul a f))

/-- How many of the ratios are met. -/
def cnt (t a : Nat) : List Nat → Nat
  | [] => 0
  | f :: fs => cnt t a fs + (if hit t a f then 1 else 0)

theorem cnt_le (t a : Nat) (fs : List Nat) : cnt t a fs ≤ fs.length := by
  induction fs with
  | nil => exact Nat.le_refl _
  | cons f fs ih => simp only [cnt, List.length_cons]; split <;> omega

theorem cnt_snoc (t a f : Nat) (fs : List Nat) : cnt t a (fs ++ [f]) = cnt t a fs + (if hit t a f then 1 else 0) := by
  induction fs with
  | nil => simp [cnt]
  | cons g fs ih => simp only [List.cons_append, cnt, ih]; omega

theorem cnt_mono_of {t a b : Nat} {fs : List Nat} (h : ∀ f ∈ fs, hit t a f = true → hit t b f = true) : cnt t a fs ≤ cnt t b fs := by
  induction fs with
  | nil => exact Nat.le_refl _
  | cons f fs ih =>
    have i := ih fun g hg => h g (List.mem_cons_of_mem _ hg)
    have j := h f List.mem_cons_self
    simp only [cnt]
    cases hh : hit t a f
    · simp only [Bool.false_eq_true, if_false]; omega
    · rw [j hh]; simp only [if_true]; omega

/-- THE COUNT GROWS WITH THE ALLOCATION. -/
theorem cnt_mono {t a b : Nat} {fs : List Nat} (hab : a ≤ b) (hb : b < inf) (hf : ∀ f ∈ fs, f < inf) : cnt t a fs ≤ cnt t b fs := by
  refine cnt_mono_of fun f hm h => ?_
  have hl := inf_lt
  have hi := hf f hm
  unfold hit at h ⊢
  rw [fmul_pos (by omega) hi] at h
  rw [fmul_pos hb hi]
  have m := mul_mono (f := f) hab
  have r1 := rg_le_inf (val a * val f) (-2148)
  have r2 := rg_le_inf (val b * val f) (-2148)
  have hlt : 2047 * 2 ^ 52 < 2 ^ 63 := by decide
  rw [key_pos (Nat.lt_of_le_of_lt r1 hlt)] at h
  rw [key_pos (Nat.lt_of_le_of_lt r2 hlt)]
  have h' := of_decide_eq_true h
  exact decide_eq_true (by omega)

theorem ng_of_key_neg {b : Nat} (h : key b < 0) : ng b = true := by
  unfold key at h
  cases hn : ng b
  · rw [hn] at h; simp only [Bool.false_eq_true, if_false] at h; omega
  · rfl

theorem cnt_neg {t b : Nat} {fs : List Nat} (hn : ng b = true) (hb : fin b) (ht : 0 < key t) (hf : ∀ f ∈ fs, f < inf) : cnt t b fs = 0 := by
  induction fs with
  | nil => rfl
  | cons f fs ih =>
    have i := ih fun g hg => hf g (List.mem_cons_of_mem _ hg)
    simp only [cnt, i]
    have hfi := hf f List.mem_cons_self
    obtain ⟨w, h1, h2, h3⟩ := mul_neg hb hn hfi
    have : hit t b f = false := by
      unfold hit fmul; rw [h1]
      exact decide_eq_false (by simp only [Option.getD_some]; omega)
    rw [this]; rfl

/-- A word at or below a rung, whatever its sign, meets no more. -/
theorem cnt_key {t b l : Nat} {fs : List Nat} (hb : fin b) (hk : key b ≤ l) (hl : l < inf) (ht : 0 < key t) (hf : ∀ f ∈ fs, f < inf) : cnt t b fs ≤ cnt t l fs := by
  cases hn : ng b
  · have h1 := hb.1
    have hbr : b < 2 ^ 63 := by
      unfold ng at hn
      have h2 : b / 2 ^ 63 < 2 := by rw [Nat.div_lt_iff_lt_mul (by decide)]; omega
      rcases Nat.lt_or_ge b (2 ^ 63) with h' | h'
      · exact h'
      · have : b / 2 ^ 63 = 1 := by
          have : 1 ≤ b / 2 ^ 63 := (Nat.le_div_iff_mul_le (by decide)).2 (by omega)
          omega
        rw [this] at hn; simp at hn
    rw [key_pos hbr] at hk
    exact cnt_mono (by omega) hl hf
  · rw [cnt_neg hn hb ht hf]; exact Nat.zero_le _

theorem cnt_zero {t : Nat} {fs : List Nat} (ht : 0 < key t) (hf : ∀ f ∈ fs, f < inf) : cnt t 0 fs = 0 := by
  induction fs with
  | nil => rfl
  | cons f fs ih =>
    have i := ih fun g hg => hf g (List.mem_cons_of_mem _ hg)
    simp only [cnt, i]
    have hfi := hf f List.mem_cons_self
    have : hit t 0 f = false := by
      unfold hit; rw [fmul_pos (by decide) hfi, val_zero, Nat.zero_mul]
      have r0 : rg 0 (-2148) = 0 := by unfold rg; rw [if_pos rfl]
      have k0 : key 0 = 0 := by decide
      rw [r0, k0]; exact decide_eq_false (by omega)
    rw [this]; rfl

end Go.Proofs.Qxb6615185a.Fl
