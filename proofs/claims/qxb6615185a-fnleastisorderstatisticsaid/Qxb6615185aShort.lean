/-
  THE TWO CLOSURES: 'reaches' (1 from t on) and 'short' (how far a's chance is from p).
-/
import Derived.Test.Qxb6615185aDomain
import Derived.Test.Qxb6615185aSearch
import Derived.Deep.Draws
namespace Go.Proofs.Qxb6615185a
open Go.RowKit

/-- Where the closures' variables lie, and what they hold. -/
structure Env (w : World) (fs : List Nat) (t p r : Nat) (a : Option Addr) (cap br bd bp bt : Nat) : Prop where
  rest : w.cell? ⟨br, 0, none⟩ = some (.float .f64 r)
  prob : w.cell? ⟨bp, 0, none⟩ = some (.float .f64 p)
  fn : w.cell? ⟨bd, 0, none⟩ = some (.func (.func 13) #[] #[.pointer (some ⟨bt, 0, none⟩)])
  sl : w.cell? ⟨bd, 1, none⟩ = some (.slice a fs.length cap)
  tt : w.cell? ⟨bt, 0, none⟩ = some (.float .f64 t)
  row : Reads w a fs

theorem Env.drewN {w : World} {fs : List Nat} {t p r : Nat} {a : Option Addr} {cap br bd bp bt : Nat} (h : Env w fs t p r a cap br bd bp bt) (n : Nat) :
    Env (w.drewN n) fs t p r a cap br bd bp bt := ⟨h.rest, h.prob, h.fn, h.sl, h.tt, h.row⟩

theorem reaches_any (x t bt : Nat) (w : World) (hx : Fl.ok x) (ht : Fl.ok t) (hc : w.cell? ⟨bt, 0, none⟩ = some (.float .f64 t)) :
    Calls Try.prog 13 #[.float .f64 x, .pointer (some ⟨bt, 0, none⟩)] w fun e w' => e = .returned (.float .f64 (if Fl.key t ≤ Fl.key x then 4607182418800017408 else 0)) ∧ w' = w := by
  have ho := ord_ge hx ht
  by_cases h : Fl.key t ≤ Fl.key x
  · rw [decide_eq_true h] at ho
    rw [if_pos h]
    clear h
    go_enter Try.func13, Try.ntmps13
    go_wp2
    go_ret
    exact ⟨rfl, rfl⟩
  · rw [decide_eq_false h] at ho
    rw [if_neg h]
    clear h
    go_enter Try.func13, Try.ntmps13
    go_wp2
    go_ret
    exact ⟨rfl, rfl⟩

/-- What 'short' answers: not below nought just where the chance is reached. -/
structure Val (fs : List Nat) (t p r0 x : Nat) (v : Nat) : Prop where
  fin : Fl.fin v
  iff : 0 ≤ Fl.key v ↔ Fl.good fs t p r0 x

theorem okey (k : Nat) (h : k < 2 ^ 53) : Fl.ok (Fl.ofN k) ∧ Fl.key (Fl.ofN k) = Fl.ofN k := by
  have hl := Fl.inf_lt
  have hb : Fl.ofN k < Fl.inf := by
    rcases Nat.eq_zero_or_pos k with h' | h'
    · subst h'; decide
    · exact (Fl.ofN_bounds h' h).2
  exact ⟨Fl.ok_pos (Nat.le_of_lt hb), Fl.key_pos (by omega)⟩

set_option maxHeartbeats 1000000 in
theorem short_any (fs : List Nat) (t p r r0 : Nat) (a : Option Addr) (cap br bd bp bt x : Nat) (w : World) (E : Env w fs t p r a cap br bd bp bt) (hn : fs.length ≤ 65536)
    (hx : Fl.fin x) (ht : Fl.ok t) (hf : ∀ f ∈ fs, f < Fl.inf) (hp : p < Fl.inf) (hr : Fl.ok r) (hr0 : Fl.key r = Fl.ofN r0) (hr1 : r0 ≤ 1) :
    Calls Try.prog 15 #[.float .f64 x, .pointer (some ⟨br, 0, none⟩), .pointer (some ⟨bd, 0, none⟩), .pointer (some ⟨bp, 0, none⟩)] w
      fun e w' => ∃ v, e = .returned (.float .f64 v) ∧ w' = w ∧ Val fs t p r0 x v := by
  obtain ⟨c1, c2, c3, c4, c5, hrow⟩ := E
  have hden := floatOfNat1 fs.length
  go_enter Try.func15, Try.ntmps15
  go_wp2
  go_loop [6, 8, 13] (fun s _ i => ∃ k z : Nat, k ≤ fs.length ∧ i = .int .i64 k ∧ s = .float .f64 z ∧ Fl.ok z ∧ Fl.key z = Fl.ofN (r0 + Fl.cnt t x (fs.take k))) (fun _ _ i => fs.length - (intOf i).toNat)
  case atStart => exact ⟨0, r, Nat.zero_le _, rfl, rfl, hr, hr0⟩
  case round =>
    obtain ⟨k, z, hk, rfl, rfl, hz1, hz2⟩ := hrel
    have hc1 := Fl.cnt_le t x (fs.take k)
    have hl : (fs.take k).length ≤ k := List.length_take_le _ _
    by_cases hlt : k < fs.length
    · obtain ⟨b, off, rfl, hcell⟩ := hrow k hlt
      have hmem := getD_mem hlt
      have HS : Hid (Fl.cnt t x (fs.take (k + 1)) = Fl.cnt t x (fs.take k) + (if Fl.hit t x (fs.getD k 0) then 1 else 0)) := by
        rw [take_snoc hlt, Fl.cnt_snoc]; exact rfl
      generalize fs.getD k 0 = f at hcell hmem HS
      have hfe := Fl.fmul_eq hx (Fl.fin_pos (hf f hmem))
      have hm := fun t w => mul_run hx (Fl.fin_pos (hf f hmem)) t w
      have HQ : Hid (Fl.ok (Fl.fmul x f)) := hfe.2
      obtain ⟨y, hy0, hy1, hy2⟩ : ∃ y, (if Fl.key t ≤ Fl.key (Fl.fmul x f) then 4607182418800017408 else 0) = y ∧ Fl.ok y ∧ Fl.key y = Fl.ofN (if Fl.hit t x f then 1 else 0) := by
        refine ⟨_, rfl, ?_⟩
        unfold Fl.hit
        by_cases h : Fl.key t ≤ Fl.key (Fl.fmul x f)
        · rw [if_pos h, decide_eq_true h, if_pos rfl, ofN_one]
          exact ⟨Fl.ok_pos (by decide), Fl.key_pos (by decide)⟩
        · rw [if_neg h, decide_eq_false h, if_neg (by decide)]
          exact ⟨Fl.ok_pos (by decide), by decide⟩
      obtain ⟨s, sa, sb, sc⟩ := Fl.add_ofN hz1 hz2 (by omega) hy1 hy2 (by split <;> omega)
      have ha := fun t w => run_float_arith (P := Try.prog) w .add t .f64 z y s sa
      have HN : Hid (Fl.ok s ∧ Fl.key s = Fl.ofN (r0 + Fl.cnt t x (fs.take (k + 1)))) := by
        rw [HS.out, ← Nat.add_assoc]; exact ⟨sb, sc⟩
      have HY : Hid ((if Fl.key t ≤ Fl.key (Fl.fmul x f) then 4607182418800017408 else 0) = y) := hy0
      clear hy0 hy1 hy2 sa sb sc HS hfe hz1 hz2 hmem hrow hf hr hr0
      have HT : Hid (Fl.ok t) := ht
      clear ht
      go_wp2_with (go_at_call 13; refine (reaches_any _ _ _ _ HQ.out HT.out c5).mono ?_; rintro e w' ⟨rfl, rfl⟩; rw [HY.out])
      go_round
      case rel => exact ⟨k + 1, s, by omega, by go_num, rfl, HN.out.1, HN.out.2⟩
      case measure => simp [intOf]; omega
    · have hke : fs.take k = fs := List.take_of_length_le (by omega)
      rw [hke] at hz2 hc1
      clear hl
      obtain ⟨q, q1, q2, q3⟩ := Fl.div_ofN (d := fs.length + 1) hz1 hz2 (by omega) (by omega) (by omega)
      obtain ⟨v, v1, v2, v3⟩ := Fl.sub_key q2 (Fl.fin_pos hp)
      have hlt63 := Fl.inf_lt
      have HV : Hid (Val fs t p r0 x v) := by
        refine ⟨Fl.fin_of_key_bounds v2 ?_ ?_, ?_⟩
        · have : Fl.rI (-(Fl.val p : Int)) ≤ Fl.key v := by
            rw [v3]; refine Fl.rI_mono ?_
            have := Fl.key_lt_iff (x := q) (y := 0)
            rw [q3, Fl.key_pos (x := 0) (by decide), Fl.iv_pos (x := 0) (by decide), Fl.val_zero] at this
            rw [Fl.iv_pos (x := p) (by omega)]
            omega
          rw [Fl.rI_neg_val (by omega)] at this
          omega
        · have : Fl.key v ≤ Fl.key q := by
            rw [v3, ← Fl.rI_iv (Nat.le_of_lt q2.2)]; refine Fl.rI_mono ?_
            rw [Fl.iv_pos (x := p) (by omega)]
            omega
          have := Fl.Q_fin (d := fs.length + 1) (k := r0 + Fl.cnt t x fs) (by omega) (by omega) (by omega)
          omega
        rw [v3, Fl.rI_nonneg]
        have := Fl.key_lt_iff (x := q) (y := p)
        rw [q3, Fl.key_pos (x := p) (by omega)] at this
        unfold Fl.good
        omega
      have hd := fun t w => run_float_arith (P := Try.prog) w .quo t .f64 z (Fl.ofN (fs.length + 1)) q q1
      have hs := fun t w => run_float_arith (P := Try.prog) w .sub t .f64 q p v v1
      clear q1 q2 q3 v1 v2 v3 hz1 hz2 hke hrow hf hr hr0 ht
      go_wp2
      go_ret
      exact ⟨v, rfl, rfl, HV.out⟩

/-- 'max(x, 0)', 'max(0, x)': whatever word without NaN. -/
theorem max0_run {g : Nat} (hg : Fl.ok g) : ∃ m, m ≤ Fl.inf ∧ (m = 0 ∨ (m = g ∧ Fl.key g = g)) ∧ (Fl.key g ≤ 0 → m = 0) ∧
    (∀ ts t w, (Builtin.max_ ts t #[.float .f64 g, .float .f64 0]).run Try.prog w = .ok (.float .f64 m) w) ∧
    (∀ ts t w, (Builtin.max_ ts t #[.float .f64 0, .float .f64 g]).run Try.prog w = .ok (.float .f64 m) w) := by
  have hlt := Fl.inf_lt
  have o0 : Fl.ok 0 := Fl.ok_pos (by decide)
  have k0 : Fl.key 0 = 0 := by decide
  have ho : FloatKind.f64.format.order g 0 = some (if Fl.key g < 0 then .lt else if Fl.key g = 0 then .eq else .gt) := by
    rw [fmt64, Fl.order_key hg o0, k0]; rfl
  have ho' : FloatKind.f64.format.order 0 g = some (if 0 < Fl.key g then .lt else if 0 = Fl.key g then .eq else .gt) := by
    rw [fmt64, Fl.order_key o0 hg, k0]; rfl
  have hn0 : (FloatKind.f64.decode 0).neg = false := by
    show (Ieee.double.read 0).neg = false
    rw [Fl.read_fin (by decide), Fl.ng_pos (by decide)]; rfl
  by_cases h1 : 0 < Fl.key g
  · obtain ⟨a, b⟩ := pos_of_key (c := 1) hg (by decide) (by omega)
    have hgi := hg.2
    have hg63 : g ≤ Fl.inf := by
      have := hg.2
      have h2 : Fl.key g = Fl.rn g := by unfold Fl.key at h1 ⊢; split at h1 <;> rename_i hn; (first | omega | (rw [if_neg hn])); rw [if_neg hn]
      omega
    rw [if_neg (by omega), if_neg (by omega)] at ho
    rw [if_pos h1] at ho'
    exact ⟨g, hg63, Or.inr ⟨rfl, b⟩, fun h => by omega, fun ts t w => by simp [Builtin.max_, Builtin.max2, ho], fun ts t w => by simp [Builtin.max_, Builtin.max2, ho']⟩
  · by_cases h2 : Fl.key g = 0
    · rw [if_neg (by omega), if_pos h2] at ho
      rw [if_neg (by omega), if_pos h2.symm] at ho'
      have hz := (Fl.word_of_key_zero hg h2).1
      refine ⟨0, Nat.zero_le _, Or.inl rfl, fun _ => rfl, fun ts t w => ?_, fun ts t w => by simp [Builtin.max_, Builtin.max2, ho', hn0]⟩
      by_cases hn : (FloatKind.f64.decode g).neg = true
      · simp [Builtin.max_, Builtin.max2, ho, hn]
      · have hgz : g = 0 := by
          have hn' : Fl.ng g = false := by
            have : (Ieee.double.read g).neg = Fl.ng g := by rw [Fl.read_fin (by rw [hz]; decide)]; rfl
            have hh : ¬ (Ieee.double.read g).neg = true := hn
            rw [this] at hh; simpa using hh
          unfold Fl.ng at hn'
          unfold Fl.rn at hz
          have h64 := hg.1
          have hd := Nat.div_add_mod g (2 ^ 63)
          have hq : g / 2 ^ 63 < 2 := by rw [Nat.div_lt_iff_lt_mul (by decide)]; omega
          rcases Nat.eq_zero_or_pos (g / 2 ^ 63) with h' | h'
          · rw [h'] at hd; omega
          · have : g / 2 ^ 63 = 1 := by omega
            rw [this] at hn'; simp at hn'
        subst hgz
        simp [Builtin.max_, Builtin.max2, ho]
    · rw [if_pos (by omega)] at ho
      rw [if_neg (by omega), if_neg (by omega)] at ho'
      exact ⟨0, Nat.zero_le _, Or.inl rfl, fun _ => rfl, fun ts t w => by simp [Builtin.max_, Builtin.max2, ho], fun ts t w => by simp [Builtin.max_, Builtin.max2, ho']⟩

/-- Whatever the operands: an arithmetic operation gives a float; it draws at most once. -/
theorem arith_any (op : BinOp) (hop : op = .sub ∨ op = .quo) (x y nd : Nat) (w : World) : ∃ r n, r < 2 ^ 64 ∧ ∀ t, (binOp op t (.float .f64 x) (.float .f64 y)).run Try.prog (w.drewN nd) = .ok (.float .f64 r) (w.drewN n) := by
  cases h : floatBits op .f64 x y with
  | some r => exact ⟨r, nd, by have := floatBits_wf h; simpa [Lit.wf] using this, fun t => run_float_arith _ op t .f64 x y r h⟩
  | none =>
    refine ⟨(Question.nanBits .f64 x y).cut ((w.drewN nd).tape (w.drewN nd).drawn (.nanBits .f64 x y)), nd + 1, ?_, fun t => ?_⟩
    · simp only [Question.cut]; omega
    · rcases hop with rfl | rfl
      · have h' : FloatKind.f64.format.sub x y = none := h
        simp [binOp, Op.floatArith, h', Question.forced]
      · have h' : FloatKind.f64.format.div x y = none := h
        simp [binOp, Op.floatArith, h', Question.forced]

end Go.Proofs.Qxb6615185a
