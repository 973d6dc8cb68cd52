/-
  THE WALKS OF THE LEAVES, 2: zzNeededB1, zzLimitB1, slices.Max, math.Inf, math.IsInf.
-/
import Derived.Test.Qxb6615185aLeaf
import Derived.Laws.Externs
namespace Go.Proofs.Qxb6615185a
open Go.RowKit

theorem floatOfNat (k : Nat) : floatOfInt .f64 (k : Int) = Fl.ofN k := by
  show Ieee.double.nearest _ _ _ = _
  rw [Fl.nearest_eq, decide_eq_false (by omega), Int.natAbs_natCast]
  unfold Ieee.Format.word Fl.ofN; rw [if_neg (by decide)]
theorem floatOfNat1 (k : Nat) : floatOfInt .f64 ((k : Int) + 1) = Fl.ofN (k + 1) := floatOfNat (k + 1)

theorem frombits (n : Int) (w : World) : (callFunc 19 #[.int .u64 n]).run Try.prog w = .ok (.value (.float .f64 n.toNat)) w := by
  rw [run_callFunc_extern Try.func19 (by kernel_rfl) (by kernel_rfl) (by kernel_rfl) (e := Extern.MathFloatBits.float64frombits) (by kernel_rfl)]
  rfl

theorem minf_any (w : World) : Calls Try.prog 16 #[.int .i64 1] w fun e w' => e = .returned (.float .f64 9218868437227405312) ∧ w' = w := by
  have hb := frombits 9218868437227405312
  go_enter Try.func16, Try.ntmps16
  go_wp2
  go_ret
  exact ⟨rfl, rfl⟩

theorem isinf_any (x : Nat) (hx : Fl.ok x) (w : World) : Calls Try.prog 20 #[.float .f64 x, .int .i64 1] w fun e w' => e = .returned (.bool (decide (Fl.key 9218868437227405311 < Fl.key x))) ∧ w' = w := by
  have ho := ord_gt hx (y := 9218868437227405311) (Fl.ok_pos (by decide))
  go_enter Try.func20, Try.ntmps20
  go_wp2
  go_ret
  exact ⟨rfl, rfl⟩

set_option maxHeartbeats 400000 in
theorem needed_any (n p rest r0 : Nat) (w : World) (hn : n ≤ 65536) (hp : Fl.ok p) (hr : Fl.ok rest) (hr0 : Fl.key rest = Fl.ofN r0) (hr1 : r0 ≤ 1) :
    Calls Try.prog 9 #[.int .i64 n, .float .f64 p, .float .f64 rest] w fun e w' => ∃ z : Int, e = .returned (.int .i64 z) ∧ w' = w ∧
      ((z = -1 ∧ ∀ m : Nat, m ≤ n → (Fl.Q (n + 1) (r0 + m) : Int) < Fl.key p) ∨
       (∃ m : Nat, m ≤ n ∧ z = m ∧ Fl.key p ≤ Fl.Q (n + 1) (r0 + m) ∧ ∀ j : Nat, j < m → (Fl.Q (n + 1) (r0 + j) : Int) < Fl.key p)) := by
  have hden := floatOfNat1 n
  go_enter Try.func9, Try.ntmps9
  go_wp2
  go_loop [8] (fun i => ∃ k : Nat, k ≤ n + 1 ∧ i = .int .i64 k ∧ ∀ j : Nat, j < k → (Fl.Q (n + 1) (r0 + j) : Int) < Fl.key p) (fun i => n + 1 - (intOf i).toNat)
  case atStart => exact ⟨0, Nat.zero_le _, rfl, fun j hj => absurd hj (Nat.not_lt_zero _)⟩
  case round =>
    obtain ⟨k, hk, rfl, hall⟩ := hrel
    have HA : Hid (∀ j : Nat, j < k → (Fl.Q (n + 1) (r0 + j) : Int) < Fl.key p) := hall
    clear hall
    by_cases hlt : k ≤ n
    · have hof := floatOfNat k
      have hb : Fl.ofN k < Fl.inf := by
        rcases Nat.eq_zero_or_pos k with h | h
        · subst h; decide
        · exact (Fl.ofN_bounds h (by omega)).2
      have hlt63 := Fl.inf_lt
      obtain ⟨s, s1, s2, s3⟩ := Fl.add_ofN (j := k) hr hr0 (by omega) (Fl.ok_pos (Nat.le_of_lt hb)) (Fl.key_pos (by omega)) (by omega)
      obtain ⟨q, q1, q2, q3⟩ := Fl.div_ofN (d := n + 1) s2 s3 (by omega) (by omega) (by omega)
      have ha := fun t w => run_float_arith (P := Try.prog) w .add t .f64 rest (Fl.ofN k) s s1
      have hd := fun t w => run_float_arith (P := Try.prog) w .quo t .f64 s (Fl.ofN (n + 1)) q q1
      have ho := ord_ge q2.ok hp
      rw [q3] at ho
      clear s1 s2 s3 q1 q2 q3 hb hlt63 hr0 hr hp
      by_cases hh : Fl.key p ≤ (Fl.Q (n + 1) (r0 + k) : Int)
      · have HH : Hid (Fl.key p ≤ (Fl.Q (n + 1) (r0 + k) : Int)) := hh
        rw [decide_eq_true hh] at ho
        clear hh
        go_wp2
        go_ret
        exact ⟨_, rfl, rfl, Or.inr ⟨k, hlt, rfl, HH.out, HA.out⟩⟩
      · have HH : Hid (¬ Fl.key p ≤ (Fl.Q (n + 1) (r0 + k) : Int)) := hh
        rw [decide_eq_false hh] at ho
        clear hh
        go_wp2
        go_round
        case rel =>
          refine ⟨k + 1, by omega, by go_num, fun j hj => ?_⟩
          rcases Nat.lt_or_eq_of_le (Nat.le_of_lt_succ hj) with h | h
          · exact HA.out j h
          · subst h; have := HH.out; omega
        case measure => simp [intOf]; omega
    · go_wp2
      go_ret
      exact ⟨_, rfl, rfl, Or.inl ⟨rfl, fun m hm => HA.out m (by omega)⟩⟩

/-- The greatest of some rungs. -/
def mxOf : Nat → List Nat → Nat
  | m, [] => m
  | m, f :: fs => mxOf (if m < f then f else m) fs
theorem mxOf_snoc (m f : Nat) (fs : List Nat) : mxOf m (fs ++ [f]) = if mxOf m fs < f then f else mxOf m fs := by
  induction fs generalizing m with
  | nil => rfl
  | cons g fs ih => show mxOf _ (fs ++ [f]) = _; rw [ih]; rfl
theorem mxOf_mem (m : Nat) (fs : List Nat) : mxOf m fs = m ∨ mxOf m fs ∈ fs := by
  induction fs generalizing m with
  | nil => exact Or.inl rfl
  | cons g fs ih =>
    simp only [mxOf]
    rcases ih (if m < g then g else m) with h | h
    · by_cases hg : m < g
      · rw [if_pos hg] at h ⊢; rw [h]; exact Or.inr List.mem_cons_self
      · rw [if_neg hg] at h ⊢; exact Or.inl h
    · exact Or.inr (List.mem_cons_of_mem _ h)

theorem max_run {x y : Nat} (hx : x < 2 ^ 63) (hx' : x ≤ Fl.inf) (hy : y < 2 ^ 63) (hy' : y ≤ Fl.inf) (ts : Array TypeId) (t : TypeId) (w : World) :
    (Builtin.max_ ts t #[.float .f64 x, .float .f64 y]).run Try.prog w = .ok (.float .f64 (if x < y then y else x)) w := by
  have ho : FloatKind.f64.format.order x y = some (if (x : Int) < y then .lt else if (x : Int) = y then .eq else .gt) := by
    rw [fmt64, Fl.order_key (Fl.ok_pos hx') (Fl.ok_pos hy'), Fl.key_pos hx, Fl.key_pos hy]; rfl
  have hneg : (FloatKind.f64.decode x).neg = false := by
    show (Ieee.double.read x).neg = false
    rcases Nat.lt_or_eq_of_le hx' with h | h
    · rw [Fl.read_fin (by rw [Fl.rn_pos hx]; exact h), Fl.ng_pos hx]; rfl
    · rw [Fl.read_inf (by rw [Fl.rn_pos hx]; exact h), Fl.ng_pos hx]; rfl
  by_cases h1 : x < y
  · rw [if_pos (by omega)] at ho
    simp [Builtin.max_, Builtin.max2, ho, h1]
  · by_cases h2 : x = y
    · subst h2
      rw [if_neg (by omega), if_pos rfl] at ho
      simp [Builtin.max_, Builtin.max2, ho, hneg]
    · rw [if_neg (by omega), if_neg (by omega)] at ho
      simp [Builtin.max_, Builtin.max2, ho, h1]

theorem min_run {x y : Nat} (hx : x < 2 ^ 63) (hx' : x ≤ Fl.inf) (hy : y < 2 ^ 63) (hy' : y ≤ Fl.inf) (ts : Array TypeId) (t : TypeId) (w : World) :
    (Builtin.min_ ts t #[.float .f64 x, .float .f64 y]).run Try.prog w = .ok (.float .f64 (if y < x then y else x)) w := by
  have ho : FloatKind.f64.format.order x y = some (if (x : Int) < y then .lt else if (x : Int) = y then .eq else .gt) := by
    rw [fmt64, Fl.order_key (Fl.ok_pos hx') (Fl.ok_pos hy'), Fl.key_pos hx, Fl.key_pos hy]; rfl
  have hneg : (FloatKind.f64.decode x).neg = false := by
    show (Ieee.double.read x).neg = false
    rcases Nat.lt_or_eq_of_le hx' with h | h
    · rw [Fl.read_fin (by rw [Fl.rn_pos hx]; exact h), Fl.ng_pos hx]; rfl
    · rw [Fl.read_inf (by rw [Fl.rn_pos hx]; exact h), Fl.ng_pos hx]; rfl
  by_cases h1 : x < y
  · rw [if_pos (by omega)] at ho
    have h3 : ¬ y < x := by omega
    simp [Builtin.min_, Builtin.min2, ho, h3]
  · by_cases h2 : x = y
    · subst h2
      rw [if_neg (by omega), if_pos rfl] at ho
      simp [Builtin.min_, Builtin.min2, ho, hneg]
    · have h3 : y < x := by omega
      rw [if_neg (by omega), if_neg (by omega)] at ho
      simp [Builtin.min_, Builtin.min2, ho, h3]

set_option maxHeartbeats 400000 in
theorem max_any (a : Option Addr) (cap : Nat) (f0 : Nat) (fs : List Nat) (w : World) (hr : Reads w a (f0 :: fs)) (hn : (f0 :: fs).length ≤ 65536) (hf : ∀ f ∈ f0 :: fs, f < Fl.inf) :
    Calls Try.prog 17 #[.slice a (f0 :: fs).length cap] w fun e w' => e = .returned (.float .f64 (mxOf f0 fs)) ∧ w' = w := by
  have hlt63 := Fl.inf_lt
  obtain ⟨b, off, rfl, hc0⟩ := hr 0 (by simp)
  have hpos : ¬ ((f0 :: fs).length : Int) < 1 := by simp; omega
  have hpos' : (0 : Int) < ((f0 :: fs).length : Int) := by simp
  simp only [Nat.add_zero, List.getD_cons_zero] at hc0
  generalize hN : (f0 :: fs).length = N at hn hpos hpos' hr ⊢
  have HN : Hid ((f0 :: fs).length = N) := hN
  clear hN
  go_enter Try.func17, Try.ntmps17
  go_wp2
  go_loop [3, 4] (fun m i => ∃ k : Nat, 1 ≤ k ∧ k ≤ N ∧ i = .int .i64 k ∧ m = .float .f64 (mxOf f0 (fs.take (k - 1)))) (fun _ i => N - (intOf i).toNat)
  case atStart => exact ⟨1, Nat.le_refl _, by omega, rfl, rfl⟩
  case round =>
    obtain ⟨k, hk1, hk, rfl, rfl⟩ := hrel
    by_cases hlt : k < N
    · have hlf : k - 1 < fs.length := by have := HN.out; simp at this; omega
      obtain ⟨b', off', hab, hcell⟩ := hr k (by rw [HN.out]; exact hlt)
      obtain ⟨rfl, rfl⟩ : b = b' ∧ off = off' := by simpa using hab
      clear hab
      have hmem : (f0 :: fs).getD k 0 ∈ fs := by
        obtain ⟨j, rfl⟩ : ∃ j, k = j + 1 := ⟨k - 1, by omega⟩
        rw [List.getD_cons_succ]; exact getD_mem hlf
      have HS : Hid (mxOf f0 (fs.take (k + 1 - 1)) = if mxOf f0 (fs.take (k - 1)) < (f0 :: fs).getD k 0 then (f0 :: fs).getD k 0 else mxOf f0 (fs.take (k - 1))) := by
        obtain ⟨j, rfl⟩ : ∃ j, k = j + 1 := ⟨k - 1, by omega⟩
        rw [Nat.add_sub_cancel, Nat.add_sub_cancel, List.getD_cons_succ, take_snoc (k := j) hlf, mxOf_snoc]; exact rfl
      have hmm : mxOf f0 (fs.take (k - 1)) < Fl.inf := by
        rcases mxOf_mem f0 (fs.take (k - 1)) with h | h
        · rw [h]; exact hf f0 List.mem_cons_self
        · exact hf _ (List.mem_cons_of_mem _ (List.mem_of_mem_take h))
      generalize (f0 :: fs).getD k 0 = g at hcell hmem HS
      generalize mxOf f0 (fs.take (k - 1)) = m at hmm HS ⊢
      have hg := hf g (List.mem_cons_of_mem _ hmem)
      have hm := fun ts t w => max_run (x := m) (y := g) (by omega) (Nat.le_of_lt hmm) (by omega) (Nat.le_of_lt hg) ts t w
      clear hf hr hmem hmm hg
      go_wp2
      go_round
      case rel => exact ⟨k + 1, by omega, by omega, by go_num, by rw [HS.out]⟩
      case measure => simp [intOf]; omega
    · go_wp2
      go_ret
      exact ⟨ret_flt (by rw [List.take_of_length_le (by have := HN.out; simp at this; omega)]), rfl⟩

/-- MaxPerLoad, over the greatest ratio. -/
def cmax : Nat := 6850974717710472879
def maxf : Nat := 9218868437227405311
def fdiv (x y : Nat) : Nat := (Ieee.double.div x y).getD 0
theorem fdiv_eq {x y : Nat} (hx : x < Fl.inf) (hy0 : 0 < y) (hy : y < Fl.inf) : Ieee.double.div x y = some (fdiv x y) ∧ fdiv x y ≤ Fl.inf := by
  obtain ⟨r, h1, h2⟩ := Fl.div_any hx hy0 hy
  have : fdiv x y = r := by unfold fdiv; rw [h1]; rfl
  rw [this]; exact ⟨h1, h2⟩

/-- The end of the search. -/
def lim1 (scale q : Nat) : Nat := if maxf < (if scale < q then q else scale) then maxf else (if scale < q then q else scale)
def limOf (scale : Nat) : List Nat → Nat
  | [] => scale
  | f :: fs => lim1 scale (fdiv cmax (mxOf f fs))

theorem mxOf_pos {f0 : Nat} {fs : List Nat} (hf : ∀ f ∈ f0 :: fs, 0 < f ∧ f < Fl.inf) : 0 < mxOf f0 fs ∧ mxOf f0 fs < Fl.inf := by
  rcases mxOf_mem f0 fs with h | h
  · rw [h]; exact hf f0 List.mem_cons_self
  · exact hf _ (List.mem_cons_of_mem _ h)

set_option maxHeartbeats 400000 in
theorem limit_nil (a : Option Addr) (cap : Nat) (scale : Nat) (w : World) :
    Calls Try.prog 10 #[.slice a 0 cap, .float .f64 scale] w fun e w' => e = .returned (.float .f64 (limOf scale [])) ∧ w' = w := by
  go_enter Try.func10, Try.ntmps10
  go_wp2
  go_ret
  exact ⟨rfl, rfl⟩

set_option maxHeartbeats 800000 in
theorem limit_cons (a : Option Addr) (cap : Nat) (f0 : Nat) (fs : List Nat) (scale : Nat) (w : World) (hr : Reads w a (f0 :: fs)) (hn : (f0 :: fs).length ≤ 65536) (hf : ∀ f ∈ f0 :: fs, 0 < f ∧ f < Fl.inf)
    (hs : scale < Fl.inf) :
    Calls Try.prog 10 #[.slice a (f0 :: fs).length cap, .float .f64 scale] w fun e w' => e = .returned (.float .f64 (limOf scale (f0 :: fs))) ∧ w' = w := by
  have hlt63 := Fl.inf_lt
  obtain ⟨b, off, rfl, hc0⟩ := hr 0 (by simp)
  have hpos' : (0 : Int) < ((f0 :: fs).length : Int) := by simp
  have hpos : (((f0 :: fs).length : Int) == 0) = false := beq_eq_false_iff_ne.2 (by omega)
  simp only [Nat.add_zero, List.getD_cons_zero] at hc0
  generalize hN : (f0 :: fs).length = N at hn hpos hpos' hr ⊢
  have HN : Hid ((f0 :: fs).length = N) := hN
  clear hN
  go_enter Try.func10, Try.ntmps10
  go_wp2
  go_loop [5, 6] (fun m i => ∃ k : Nat, 1 ≤ k ∧ k ≤ N ∧ i = .int .i64 k ∧ m = .float .f64 (mxOf f0 (fs.take (k - 1)))) (fun _ i => N - (intOf i).toNat)
  case atStart => exact ⟨1, Nat.le_refl _, by omega, rfl, rfl⟩
  case round =>
    obtain ⟨k, hk1, hk, rfl, rfl⟩ := hrel
    by_cases hlt : k < N
    · have hlf : k - 1 < fs.length := by have := HN.out; simp at this; omega
      obtain ⟨b', off', hab, hcell⟩ := hr k (by rw [HN.out]; exact hlt)
      obtain ⟨rfl, rfl⟩ : b = b' ∧ off = off' := by simpa using hab
      clear hab
      have hmem : (f0 :: fs).getD k 0 ∈ fs := by
        obtain ⟨j, rfl⟩ : ∃ j, k = j + 1 := ⟨k - 1, by omega⟩
        rw [List.getD_cons_succ]; exact getD_mem hlf
      have HS : Hid (mxOf f0 (fs.take (k + 1 - 1)) = if mxOf f0 (fs.take (k - 1)) < (f0 :: fs).getD k 0 then (f0 :: fs).getD k 0 else mxOf f0 (fs.take (k - 1))) := by
        obtain ⟨j, rfl⟩ : ∃ j, k = j + 1 := ⟨k - 1, by omega⟩
        rw [Nat.add_sub_cancel, Nat.add_sub_cancel, List.getD_cons_succ, take_snoc (k := j) hlf, mxOf_snoc]; exact rfl
      have hmm : mxOf f0 (fs.take (k - 1)) < Fl.inf := by
        rcases mxOf_mem f0 (fs.take (k - 1)) with h | h
        · rw [h]; exact (hf f0 List.mem_cons_self).2
        · exact (hf _ (List.mem_cons_of_mem _ (List.mem_of_mem_take h))).2
      generalize (f0 :: fs).getD k 0 = g at hcell hmem HS
      generalize mxOf f0 (fs.take (k - 1)) = m at hmm HS ⊢
      have hg := (hf g (List.mem_cons_of_mem _ hmem)).2
      have ho := ord_gt (x := g) (y := m) (Fl.ok_pos (Nat.le_of_lt hg)) (Fl.ok_pos (Nat.le_of_lt hmm))
      rw [Fl.key_pos (by omega), Fl.key_pos (by omega)] at ho
      clear hf hr hmem hmm hg
      by_cases hh : m < g
      · rw [decide_eq_true (by omega)] at ho
        have HE : Hid (mxOf f0 (fs.take (k + 1 - 1)) = g) := by rw [HS.out, if_pos hh]; exact rfl
        clear hh HS
        go_wp2
        go_round
        case rel => exact ⟨k + 1, by omega, by omega, by go_num, by rw [HE.out]⟩
        case measure => simp [intOf]; omega
      · rw [decide_eq_false (by omega)] at ho
        have HE : Hid (mxOf f0 (fs.take (k + 1 - 1)) = m) := by rw [HS.out, if_neg hh]; exact rfl
        clear hh HS
        go_wp2
        go_round
        case rel => exact ⟨k + 1, by omega, by omega, by go_num, by rw [HE.out]⟩
        case measure => simp [intOf]; omega
    · have hfin : mxOf f0 (fs.take (k - 1)) = mxOf f0 fs := by rw [List.take_of_length_le (by have := HN.out; simp at this; omega)]
      obtain ⟨hm0, hm1⟩ := mxOf_pos hf
      have HF : Hid (limOf scale (f0 :: fs) = lim1 scale (fdiv cmax (mxOf f0 fs))) := rfl
      rw [hfin]
      clear hfin hr hf
      generalize mxOf f0 fs = m at hm0 hm1 HF ⊢
      obtain ⟨d1, d2⟩ := fdiv_eq (x := cmax) (y := m) (by decide) hm0 hm1
      have hd := fun t w => run_float_arith (P := Try.prog) w .quo t .f64 6850974717710472879 m _ d1
      have o1 := ord_lt (x := fdiv cmax m) (y := scale) (Fl.ok_pos d2) (Fl.ok_pos (Nat.le_of_lt hs))
      have o2 := ord_gt (x := fdiv cmax m) (y := 9218868437227405311) (Fl.ok_pos d2) (Fl.ok_pos (by decide))
      have o3 := ord_gt (x := scale) (y := 9218868437227405311) (Fl.ok_pos (Nat.le_of_lt hs)) (Fl.ok_pos (by decide))
      rw [Fl.key_pos (by omega), Fl.key_pos (by omega)] at o1
      rw [Fl.key_pos (by omega), Fl.key_pos (by omega)] at o2
      rw [Fl.key_pos (by omega), Fl.key_pos (by omega)] at o3
      clear d1
      generalize fdiv cmax m = q at *
      have hsm : ¬ maxf < scale := by have := Fl.inf_lit; unfold maxf; omega
      by_cases h1 : q < scale
      · rw [decide_eq_true (by omega)] at o1
        rw [decide_eq_false (by unfold maxf at hsm; omega)] at o3
        have HE : Hid (lim1 scale q = scale) := by
          have e : (if scale < q then q else scale) = scale := if_neg (by omega)
          unfold lim1; rw [e, if_neg hsm]; exact rfl
        clear h1 hsm hm0 hm1 d2
        go_wp2
        go_ret
        exact ⟨ret_flt (by rw [HF.out, HE.out]), rfl⟩
      · rw [decide_eq_false (by omega)] at o1
        have e : (if scale < q then q else scale) = q := by split <;> omega
        by_cases h2 : maxf < q
        · rw [decide_eq_true (by unfold maxf at h2; omega)] at o2
          have HE : Hid (lim1 scale q = maxf) := by
            unfold lim1; rw [e, if_pos h2]; exact rfl
          clear h1 h2 hsm hm0 hm1 d2 e
          go_wp2
          go_ret
          exact ⟨ret_flt (by rw [HF.out, HE.out]; rfl), rfl⟩
        · rw [decide_eq_false (by unfold maxf at h2; omega)] at o2
          have HE : Hid (lim1 scale q = q) := by
            unfold lim1; rw [e, if_neg h2]; exact rfl
          clear h1 h2 hsm hm0 hm1 d2 e
          go_wp2
          go_ret
          exact ⟨ret_flt (by rw [HF.out, HE.out]), rfl⟩

end Go.Proofs.Qxb6615185a
