/-
  THE LAW: FnLeastIsOrderStatistic, walked out of its callees' contracts.
-/
import Derived.Test.Qxb6615185aLeast
import Derived.Laws.MakeOwn
import Derived.Laws.CopyRow
import Derived.Laws.IdiomCopy
import Derived.Laws.CopyOwn
import Derived.Laws.Cover3
namespace Go.Proofs.Qxb6615185a
open Go.RowKit

theorem Try.info23 : (Try.prog.info? 23).map (fun i => (i.zero, i.size, i.bytes)) = some (some (.float .f64 0), 1, 8) := by kernel_rfl

theorem Reads.below {w w' : World} {a : Option Addr} {fs : List Nat} (h : Reads w a fs) (hb : Below w.heap.size w w') : Reads w' a fs := by
  intro i hi
  obtain ⟨b, off, h1, h2⟩ := h i hi
  exact ⟨b, off, h1, by rw [hb.cell (p := ⟨b, off + i, none⟩) (cell_lt h2)]; exact h2⟩

/-- 'copy(zzc, perLoad)' into what 'make' has just made. -/
theorem copy_made (a : Option Addr) (cap : Nat) (fs : List Nat) (w : World) (Z : Array Value) (hZ : Z.size = fs.length) (hr : Reads w a fs) :
    ∃ W2, (∀ ty, (Builtin.copy_ #[22, 22] ty #[.slice (some ⟨w.heap.size, 0, none⟩) fs.length fs.length, .slice a fs.length cap]).run Try.prog (w.alloc (.cells Z 23)) = .ok (.int .i64 fs.length) W2) ∧
      Below w.heap.size w W2 ∧ Reads W2 (some ⟨w.heap.size, 0, none⟩) fs := by
  have hi1 : (Try.prog.info? 23).map (·.size) = some 1 := by kernel_rfl
  have hB1 : Below w.heap.size w (w.alloc (.cells Z 23)) := (Below.refl _ _).alloc (Nat.le_refl _) _
  rcases Nat.eq_zero_or_pos fs.length with h0 | h0
  · refine ⟨w.alloc (.cells Z 23), fun ty => ?_, hB1, fun i hi => by omega⟩
    have := run_copy_none (P := Try.prog) (w.alloc (.cells Z 23)) 22 22 ty 23 (some ⟨w.heap.size, 0, none⟩) a fs.length fs.length fs.length cap Try.underlying22 hi1 (by rw [h0]; rfl)
    rw [this, h0]; rfl
  · obtain ⟨b, off, rfl, _⟩ := hr 0 h0
    have hg : (w.alloc (.cells Z 23)).heap[w.heap.size]? = some (.cells Z 23 (0, 0)) := by simpa using heap_alloc_new w (.cells Z 23)
    have hsrc : ∀ j v, (fs.map (Value.float .f64))[j]? = some v → (w.alloc (.cells Z 23)).cell? ((⟨b, off, none⟩ : Addr).add j) = some v := by
      intro j v hj
      have hjl : j < fs.length := by
        rcases Nat.lt_or_ge j fs.length with h | h
        · exact h
        · rw [List.getElem?_eq_none (by simpa using h)] at hj; cases hj
      obtain ⟨b', off', hab, hc⟩ := hr j hjl
      obtain ⟨rfl, rfl⟩ : b = b' ∧ off = off' := by simpa using hab
      have hv : v = .float .f64 (fs.getD j 0) := by
        rw [List.getElem?_map, List.getElem?_eq_getElem hjl] at hj
        rw [List.getD_eq_getElem?_getD, List.getElem?_eq_getElem hjl]
        simpa using hj.symm
      have ha : (⟨b, off, none⟩ : Addr).add j = ⟨b, off + j, none⟩ := by unfold Addr.add; split <;> simp_all
      rw [ha, hv]
      exact cell_alloc _ hc
    have hrun := fun ty => run_copy_row (P := Try.prog) (w.alloc (.cells Z 23)) 22 22 ty 23 w.heap.size 0 fs.length fs.length ⟨b, off, none⟩ fs.length cap Z 23 (fs.map (Value.float .f64)) Try.underlying22 hi1 hg (by simp) hsrc (by simp [hZ]) (fun v hv => by
      obtain ⟨x, _, rfl⟩ := List.mem_map.1 hv; rfl)
    refine ⟨_, fun ty => by rw [hrun ty, List.length_map]; rfl, below_setRow hB1 (Nat.le_refl _) _, ?_⟩
    intro i hi
    refine ⟨w.heap.size, 0, rfl, ?_⟩
    rw [cell_setRow_same _ _ _ _ _ _ _ hg]
    have hd : Z.toList.drop (0 + fs.length) = [] := List.drop_eq_nil_of_le (by simp [hZ])
    rw [hd]
    simp only [Nat.zero_add, List.take_zero, List.nil_append, List.append_nil, List.getElem?_toArray, List.getElem?_map, List.getElem?_eq_getElem hi, Option.map_some, List.getD_eq_getElem?_getD, Option.getD_some]

/-! ### The plain ends -/
structure Need (fs : List Nat) (t p r0 m : Nat) : Prop where
  le : m ≤ fs.length
  at_ : (p : Int) ≤ Fl.Q (fs.length + 1) (r0 + m)
  below : ∀ j : Nat, j < m → (Fl.Q (fs.length + 1) (r0 + j) : Int) < p

theorem Need.reach {fs : List Nat} {t p r0 m : Nat} (h : Need fs t p r0 m) (hn : fs.length ≤ 65536) (hr : r0 ≤ 1) : ¬ (Fl.Q (fs.length + 1) (r0 + fs.length) : Int) < p := by
  have a := h.at_
  have b := h.le
  have q := Fl.Q_mono (d := fs.length + 1) (a := r0 + m) (b := r0 + fs.length) (by omega) (by omega) (by omega) (by omega)
  omega

theorem end_none {fs : List Nat} {t p r0 scale r : Nat} (h : ∀ m : Nat, m ≤ fs.length → (Fl.Q (fs.length + 1) (r0 + m) : Int) < p) (hT : TSpec fs t p r0 scale r) : r = 9218868437227405312 := by
  rcases hT with ⟨_, h1⟩ | ⟨h1, _⟩
  · exact h1
  · exact absurd (h fs.length (Nat.le_refl _)) h1

theorem end_zero {fs : List Nat} {t p r0 scale r : Nat} (hn : fs.length ≤ 65536) (hr : r0 ≤ 1) (hf : ∀ f ∈ fs, f < Fl.inf) (hs : scale < Fl.inf) (N : Need fs t p r0 0) (hT : TSpec fs t p r0 scale r) : r = 0 := by
  have g0 : Fl.good fs t p r0 0 := (Fl.good_cnt hn hr N.at_ N.below).2 (Nat.zero_le _)
  obtain ⟨l1, l2⟩ := limOf_bounds scale fs hs
  rcases hT with ⟨h1, _⟩ | ⟨_, h1⟩
  · exact absurd h1 (N.reach hn hr)
  · rcases h1 with ⟨_, h⟩ | ⟨h, _⟩ | ⟨h, _⟩
    · exact h
    · exact absurd (Fl.good_mono hn hr hf (Nat.zero_le _) l2 g0) h
    · exact absurd g0 h

theorem end_far {fs : List Nat} {t p r0 scale r m : Nat} (hn : fs.length ≤ 65536) (hr : r0 ≤ 1) (hf : ∀ f ∈ fs, f < Fl.inf) (hs : scale < Fl.inf) (N : Need fs t p r0 m)
    (hl : Fl.cnt t (limOf scale fs) fs < m) (hT : TSpec fs t p r0 scale r) : r = 9218868437227405312 := by
  have gc := fun x => Fl.good_cnt (t := t) (x := x) hn hr N.at_ N.below
  have hg : ¬ Fl.good fs t p r0 (limOf scale fs) := fun h => by have := (gc _).1 h; omega
  obtain ⟨l1, l2⟩ := limOf_bounds scale fs hs
  rcases hT with ⟨h1, _⟩ | ⟨_, h1⟩
  · exact absurd h1 (N.reach hn hr)
  · rcases h1 with ⟨h, _⟩ | ⟨_, h⟩ | ⟨_, h, _⟩
    · exact absurd (Fl.good_mono hn hr hf (Nat.zero_le _) l2 h) hg
    · exact h
    · exact absurd h hg

theorem end_near {fs : List Nat} {t p r0 scale r m : Nat} (hn : fs.length ≤ 65536) (hr : r0 ≤ 1) (hf : ∀ f ∈ fs, f < Fl.inf) (hs0 : Fl.s0 ≤ scale) (hs : scale < Fl.inf) (ht : 0 < Fl.key t) (N : Need fs t p r0 m) (hm : 0 < m)
    (hl : ¬ Fl.cnt t (limOf scale fs) fs < m) (hT : TSpec fs t p r0 scale r) :
    0 < r ∧ r < Fl.inf ∧ r ≤ limOf scale fs ∧ m ≤ Fl.cnt t r fs ∧
    ∃ x b, Ieee.double.mul Fl.two (Fl.tol (if scale < r then r else scale)) = some x ∧ Ieee.double.sub r x = some b ∧ Fl.fin b ∧ Fl.cnt t b fs < m := by
  have gc := fun x => Fl.good_cnt (t := t) (x := x) hn hr N.at_ N.below
  have hg : Fl.good fs t p r0 (limOf scale fs) := (gc _).2 (by omega)
  obtain ⟨l1, l2⟩ := limOf_bounds scale fs hs
  rcases hT with ⟨h1, _⟩ | ⟨_, h1⟩
  · exact absurd h1 (N.reach hn hr)
  · rcases h1 with ⟨h, _⟩ | ⟨h, _⟩ | ⟨_, _, l, a1, a2, a3, a4, a5⟩
    · have := (gc _).1 h; rw [Fl.cnt_zero ht hf] at this; omega
    · exact absurd hg h
    · obtain ⟨x, b, b1, b2, b3, b4⟩ := Fl.exit_below (l := l) (u := r) (m := if scale < l then l else scale) (M := if scale < r then r else scale) a1 (by omega) (by split <;> omega) (by split <;> omega) (by split <;> split <;> omega) a5
      refine ⟨by omega, by omega, a2, (gc _).1 a3, x, b, b1, b2, b3, ?_⟩
      have c1 := Fl.cnt_key (fs := fs) b3 b4 (by omega) ht hf
      have c2 : ¬ m ≤ Fl.cnt t l fs := fun h => a4 ((gc _).2 h)
      omega

theorem law_long (a : Option Addr) (n cap t s p r g : Nat) (w : World) (hn : 65536 < n) (h63 : n ≤ 9223372036854775807) :
    Calls Try.prog 4 #[.slice a n cap, .float .f64 t, .float .f64 s, .float .f64 p, .float .f64 r, .float .f64 g] w fun e w' => e = .returned (.bool true) ∧ Below w.heap.size w w' := by
  by_cases h : 1048576 < n
  · go_enter Try.func4, Try.ntmps4
    go_wp2_with (go_at_call 12; refine (bytes_no _ _ _ _ _ _ _ _ _ (by omega)).mono ?_; rintro e w' ⟨rfl, rfl⟩)
    go_ret
    exact ⟨rfl, Below.refl _ _⟩
  · go_enter Try.func4, Try.ntmps4
    go_wp2_with (go_at_call 12; refine (bytes_any _ _ _ _ _ _ _ _ _ (by omega)).mono ?_; rintro e w' ⟨rfl, rfl⟩)
    go_ret
    exact ⟨rfl, Below.refl _ _⟩

set_option maxHeartbeats 4000000 in
set_option maxRecDepth 100000 in
theorem law_short (a : Option Addr) (cap : Nat) (fs : List Nat) (t s p r g : Nat) (w : World) (hrw : Reads w a fs) (hn : fs.length ≤ 65536) (hnil : a = none → fs.length = 0 ∧ cap = 0) (hf : ∀ f ∈ fs, f < 2 ^ 64)
    (ht : t < 2 ^ 64) (hs' : s < 2 ^ 64) (hp' : p < 2 ^ 64) (hr' : r < 2 ^ 64) (hg' : g < 2 ^ 64) :
    Calls Try.prog 4 #[.slice a fs.length cap, .float .f64 t, .float .f64 s, .float .f64 p, .float .f64 r, .float .f64 g] w fun e w' => e = .returned (.bool true) ∧ Below w.heap.size w w' := by
  go_enter Try.func4, Try.ntmps4
  go_wp2_with fail
  refine Calls.mono (bytes_any a fs.length cap t s p r g _ (by omega)) ?_
  rintro e w' ⟨rfl, hw'⟩; subst w'
  go_wp2_with fail
  refine Calls.mono (domain_any a cap fs t s p r g _ hrw hn hf ht hs' hp' hr' hg') ?_
  rintro e w' ⟨bb, rfl, hw', hD⟩; subst w'
  cases bb
  · go_wp2_with fail
    go_ret
    exact ⟨rfl, Below.refl _ _⟩
  · obtain ⟨hdt, hs, hp, ⟨hr, r0, hr1, hr0⟩, hg, hfr⟩ := hD rfl
    have hlt := Fl.inf_lt
    have e0 : Fl.s0 = 3110860544497550640 := rfl
    have e1 : s1 = 6103021453049119613 := rfl
    have e2 : one = 4607182418800017408 := rfl
    have e3 := Fl.inf_lit
    unfold inR at hdt hs hfr
    have htok : Fl.ok t := Fl.ok_pos (by omega)
    have hkt : 0 < Fl.key t := by rw [Fl.key_pos (by omega)]; omega
    have hfp : ∀ f ∈ fs, 0 < f ∧ f < Fl.inf := fun f hm => by have := hfr f hm; omega
    have hfi : ∀ f ∈ fs, f < Fl.inf := fun f hm => (hfp f hm).2
    have hpi : p < Fl.inf := by omega
    have hsi : s < Fl.inf := by omega
    have hti : t < Fl.inf := by omega
    clear hfr e1 e2 e3 e0 ht hs' hp' hr' hg' hf hdt
    cases a with
    | none =>
      obtain ⟨hz, rfl⟩ := hnil rfl
      have HRW : Hid (Reads w none fs) := hrw
      have HBW : Hid (Below w.heap.size w w) := Below.refl _ _
      clear hrw hnil
      clear hz
      have hnq := fun w => run_neq_slice_nil (P := Try.prog) w 22 23 none fs.length 0 Try.underlying22
      go_wp2_with fail
      refine Calls.mono (inf_any _) ?_
      rintro e w' ⟨rfl, hw'⟩; subst w'
      go_wp2_with fail
      refine Calls.mono (step_any fs t p r r0 none 0 s g _ HRW.out hn htok hfp (by omega) hr hr0 hr1 hs.1 (by omega) hg) ?_
      rintro e w1 ⟨x, rfl, hb1, hT⟩
      have HT : Hid (TSpec fs t p r0 s x) := hT
      have HB1 : Hid (Below w.heap.size w w1) := HBW.out.trans (hb1.mono (by have := HBW.out.size; omega))
      have HR1 : Hid (Reads w1 none fs) := HRW.out.below hb1
      clear hT hb1
      go_wp2_with fail
      refine Calls.mono (needed_any fs.length p r r0 _ hn (Fl.ok_pos (by omega)) hr hr0 hr1) ?_
      rintro e w' ⟨z, rfl, hw', hz⟩; subst w'
      rw [Fl.key_pos (x := p) (by omega)] at hz
      rcases hz with ⟨rfl, hz⟩ | ⟨m, hm1, rfl, hm2, hm3⟩
      · have e1 := end_none hz HT.out
        subst e1
        clear hz
        have ho : (FloatKind.f64.format.order 9218868437227405312 9218868437227405312 == some .eq) = true := by decide +kernel
        go_wp2_with fail
        go_ret
        exact ⟨rfl, HB1.out⟩
      · have N : Need fs t p r0 m := ⟨hm1, hm2, hm3⟩
        have HN : Hid (Need fs t p r0 m) := N
        clear hm2 hm3 N
        by_cases hm0 : m = 0
        · subst hm0
          have e1 := end_zero hn hr1 hfi (by omega) HN.out HT.out
          subst e1
          have ho : (FloatKind.f64.format.order 0 0 == some .eq) = true := by decide +kernel
          go_wp2_with fail
          go_ret
          exact ⟨rfl, HB1.out⟩
        · have hmz : ((m : Int) == 0) = false := beq_eq_false_iff_ne.2 (by omega)
          go_wp2_with fail
          refine Calls.mono (limit_list none 0 fs s _ HR1.out hn hfp (by omega)) ?_
          rintro e w' ⟨rfl, hw'⟩; subst w'
          obtain ⟨l1, l2⟩ := limOf_bounds s fs (by omega)
          go_wp2_with fail
          refine Calls.mono (count_any none 0 fs (limOf s fs) t _ HR1.out hn (Fl.fin_pos l2) htok hfi) ?_
          rintro e w' ⟨rfl, hw'⟩; subst w'
          by_cases hc : Fl.cnt t (limOf s fs) fs < m
          · have e1 := end_far hn hr1 hfi (by omega) HN.out hc HT.out
            subst e1
            have ho : (FloatKind.f64.format.order 9218868437227405312 9218868437227405312 == some .eq) = true := by decide +kernel
            go_wp2_with fail
            go_ret
            exact ⟨rfl, HB1.out⟩
          · obtain ⟨x0, xi, xl, xm, y, b, ya, yb, yc, yd⟩ := end_near hn hr1 hfi hs.1 (by omega) hkt HN.out (by omega) hc HT.out
            have o1 := ord_gt (x := x) (y := 0) (Fl.ok_pos (by omega)) (Fl.ok_pos (by decide))
            rw [Fl.key_pos (x := 0) (by decide), Fl.key_pos (x := x) (by omega), decide_eq_true (by omega)] at o1
            have o2 := ord_le (x := x) (y := limOf s fs) (Fl.ok_pos (by omega)) (Fl.ok_pos (by omega))
            rw [Fl.key_pos (by omega), Fl.key_pos (by omega), decide_eq_true (by omega)] at o2
            have o3 := ord_gt (x := x) (y := s) (Fl.ok_pos (by omega)) (Fl.ok_pos (by omega))
            rw [Fl.key_pos (by omega), Fl.key_pos (by omega)] at o3
            have hc' : ¬ ((Fl.cnt t (limOf s fs) fs : Nat) : Int) < (m : Int) := by omega
            have hcx : ¬ ((Fl.cnt t x fs : Nat) : Int) < (m : Int) := by omega
            have hcb : ((Fl.cnt t b fs : Nat) : Int) < (m : Int) := by omega
            have hsub := fun t w => run_float_arith (P := Try.prog) w .sub t .f64 x y b yb
            have HX : Hid (Fl.fin x) := Fl.fin_pos xi
            have HY : Hid (Fl.fin b) := yc
            by_cases hxs : s < x
            · rw [decide_eq_true (by omega)] at o3
              rw [if_pos hxs] at ya
              have hm1' := fun t w => run_float_arith (P := Try.prog) w .mul t .f64 4472406533629990549 x _ (Fl.tol_mul xi)
              have hm2' := fun t w => run_float_arith (P := Try.prog) w .mul t .f64 4611686018427387904 (Fl.tol x) y ya
              clear ya yb yc yd hc xm
              go_wp2_with fail
              refine Calls.mono (count_any none 0 fs x t _ HR1.out hn HX.out htok hfi) ?_
              rintro e w' ⟨rfl, hw'⟩; subst w'
              go_wp2_with fail
              refine Calls.mono (count_any none 0 fs b t _ HR1.out hn HY.out htok hfi) ?_
              rintro e w' ⟨rfl, hw'⟩; subst w'
              go_wp2_with fail
              go_ret
              exact ⟨rfl, HB1.out⟩
            · rw [decide_eq_false (by omega)] at o3
              rw [if_neg hxs] at ya
              have hm1' := fun t w => run_float_arith (P := Try.prog) w .mul t .f64 4472406533629990549 s _ (Fl.tol_mul (by omega))
              have hm2' := fun t w => run_float_arith (P := Try.prog) w .mul t .f64 4611686018427387904 (Fl.tol s) y ya
              clear ya yb yc yd hc xm
              go_wp2_with fail
              refine Calls.mono (count_any none 0 fs x t _ HR1.out hn HX.out htok hfi) ?_
              rintro e w' ⟨rfl, hw'⟩; subst w'
              go_wp2_with fail
              refine Calls.mono (count_any none 0 fs b t _ HR1.out hn HY.out htok hfi) ?_
              rintro e w' ⟨rfl, hw'⟩; subst w'
              go_wp2_with fail
              go_ret
              exact ⟨rfl, HB1.out⟩
    | some ad =>
      have hnq := fun w => run_neq_slice_nil (P := Try.prog) w 22 23 (some ad) fs.length cap Try.underlying22
      obtain ⟨i0, hi, hz0, hz1, hz2⟩ := info_parts Try.info23
      have hmk : ∀ w : World, (Instr.makeSlice 22 (.int .i64 fs.length) (.int .i64 fs.length)).run Try.prog w = .ok (.slice (some ⟨w.heap.size, 0, none⟩) fs.length fs.length) (w.alloc (.cells (madeCells (Value.float .f64 0).cells fs.length) 23)) := by
        intro w
        have := run_make (P := Try.prog) w 22 23 i0 (.float .f64 0) Try.underlying22 hi hz0 .i64 .i64 fs.length fs.length (by omega) (by omega) (by rw [hz2]; omega) (by omega)
        rw [this, hz1, Int.toNat_natCast, Nat.mul_one]
      have hZ : (madeCells (Value.float .f64 0).cells fs.length).size = fs.length := size_madeCells _ _
      generalize madeCells (Value.float .f64 0).cells fs.length = Z at hmk hZ
      obtain ⟨W2, hcp, hb2, hr2⟩ := copy_made (some ad) cap fs w Z hZ hrw
      have HRW : Hid (Reads W2 (some ⟨w.heap.size, 0, none⟩) fs) := hr2
      have HBW : Hid (Below w.heap.size w W2) := hb2
      clear hb2 hr2 hrw hnil hi hz0 hz1 hz2 hZ
      go_wp2_with fail
      refine Calls.mono (inf_any _) ?_
      rintro e w' ⟨rfl, hw'⟩; subst w'
      go_wp2_with fail
      refine Calls.mono (step_any fs t p r r0 (some ⟨w.heap.size, 0, none⟩) fs.length s g _ HRW.out hn htok hfp (by omega) hr hr0 hr1 hs.1 (by omega) hg) ?_
      rintro e w1 ⟨x, rfl, hb1, hT⟩
      have HT : Hid (TSpec fs t p r0 s x) := hT
      have HB1 : Hid (Below w.heap.size w w1) := HBW.out.trans (hb1.mono (by have := HBW.out.size; omega))
      have HR1 : Hid (Reads w1 (some ⟨w.heap.size, 0, none⟩) fs) := HRW.out.below hb1
      clear hT hb1
      go_wp2_with fail
      refine Calls.mono (needed_any fs.length p r r0 _ hn (Fl.ok_pos (by omega)) hr hr0 hr1) ?_
      rintro e w' ⟨z, rfl, hw', hz⟩; subst w'
      rw [Fl.key_pos (x := p) (by omega)] at hz
      rcases hz with ⟨rfl, hz⟩ | ⟨m, hm1, rfl, hm2, hm3⟩
      · have e1 := end_none hz HT.out
        subst e1
        clear hz
        have ho : (FloatKind.f64.format.order 9218868437227405312 9218868437227405312 == some .eq) = true := by decide +kernel
        go_wp2_with fail
        go_ret
        exact ⟨rfl, HB1.out⟩
      · have N : Need fs t p r0 m := ⟨hm1, hm2, hm3⟩
        have HN : Hid (Need fs t p r0 m) := N
        clear hm2 hm3 N
        by_cases hm0 : m = 0
        · subst hm0
          have e1 := end_zero hn hr1 hfi (by omega) HN.out HT.out
          subst e1
          have ho : (FloatKind.f64.format.order 0 0 == some .eq) = true := by decide +kernel
          go_wp2_with fail
          go_ret
          exact ⟨rfl, HB1.out⟩
        · have hmz : ((m : Int) == 0) = false := beq_eq_false_iff_ne.2 (by omega)
          go_wp2_with fail
          refine Calls.mono (limit_list (some ⟨w.heap.size, 0, none⟩) fs.length fs s _ HR1.out hn hfp (by omega)) ?_
          rintro e w' ⟨rfl, hw'⟩; subst w'
          obtain ⟨l1, l2⟩ := limOf_bounds s fs (by omega)
          go_wp2_with fail
          refine Calls.mono (count_any (some ⟨w.heap.size, 0, none⟩) fs.length fs (limOf s fs) t _ HR1.out hn (Fl.fin_pos l2) htok hfi) ?_
          rintro e w' ⟨rfl, hw'⟩; subst w'
          by_cases hc : Fl.cnt t (limOf s fs) fs < m
          · have e1 := end_far hn hr1 hfi (by omega) HN.out hc HT.out
            subst e1
            have ho : (FloatKind.f64.format.order 9218868437227405312 9218868437227405312 == some .eq) = true := by decide +kernel
            go_wp2_with fail
            go_ret
            exact ⟨rfl, HB1.out⟩
          · obtain ⟨x0, xi, xl, xm, y, b, ya, yb, yc, yd⟩ := end_near hn hr1 hfi hs.1 (by omega) hkt HN.out (by omega) hc HT.out
            have o1 := ord_gt (x := x) (y := 0) (Fl.ok_pos (by omega)) (Fl.ok_pos (by decide))
            rw [Fl.key_pos (x := 0) (by decide), Fl.key_pos (x := x) (by omega), decide_eq_true (by omega)] at o1
            have o2 := ord_le (x := x) (y := limOf s fs) (Fl.ok_pos (by omega)) (Fl.ok_pos (by omega))
            rw [Fl.key_pos (by omega), Fl.key_pos (by omega), decide_eq_true (by omega)] at o2
            have o3 := ord_gt (x := x) (y := s) (Fl.ok_pos (by omega)) (Fl.ok_pos (by omega))
            rw [Fl.key_pos (by omega), Fl.key_pos (by omega)] at o3
            have hc' : ¬ ((Fl.cnt t (limOf s fs) fs : Nat) : Int) < (m : Int) := by omega
            have hcx : ¬ ((Fl.cnt t x fs : Nat) : Int) < (m : Int) := by omega
            have hcb : ((Fl.cnt t b fs : Nat) : Int) < (m : Int) := by omega
            have hsub := fun t w => run_float_arith (P := Try.prog) w .sub t .f64 x y b yb
            have HX : Hid (Fl.fin x) := Fl.fin_pos xi
            have HY : Hid (Fl.fin b) := yc
            by_cases hxs : s < x
            · rw [decide_eq_true (by omega)] at o3
              rw [if_pos hxs] at ya
              have hm1' := fun t w => run_float_arith (P := Try.prog) w .mul t .f64 4472406533629990549 x _ (Fl.tol_mul xi)
              have hm2' := fun t w => run_float_arith (P := Try.prog) w .mul t .f64 4611686018427387904 (Fl.tol x) y ya
              clear ya yb yc yd hc xm
              go_wp2_with fail
              refine Calls.mono (count_any (some ⟨w.heap.size, 0, none⟩) fs.length fs x t _ HR1.out hn HX.out htok hfi) ?_
              rintro e w' ⟨rfl, hw'⟩; subst w'
              go_wp2_with fail
              refine Calls.mono (count_any (some ⟨w.heap.size, 0, none⟩) fs.length fs b t _ HR1.out hn HY.out htok hfi) ?_
              rintro e w' ⟨rfl, hw'⟩; subst w'
              go_wp2_with fail
              go_ret
              exact ⟨rfl, HB1.out⟩
            · rw [decide_eq_false (by omega)] at o3
              rw [if_neg hxs] at ya
              have hm1' := fun t w => run_float_arith (P := Try.prog) w .mul t .f64 4472406533629990549 s _ (Fl.tol_mul (by omega))
              have hm2' := fun t w => run_float_arith (P := Try.prog) w .mul t .f64 4611686018427387904 (Fl.tol s) y ya
              clear ya yb yc yd hc xm
              go_wp2_with fail
              refine Calls.mono (count_any (some ⟨w.heap.size, 0, none⟩) fs.length fs x t _ HR1.out hn HX.out htok hfi) ?_
              rintro e w' ⟨rfl, hw'⟩; subst w'
              go_wp2_with fail
              refine Calls.mono (count_any (some ⟨w.heap.size, 0, none⟩) fs.length fs b t _ HR1.out hn HY.out htok hfi) ?_
              rintro e w' ⟨rfl, hw'⟩; subst w'
              go_wp2_with fail
              go_ret
              exact ⟨rfl, HB1.out⟩

end Go.Proofs.Qxb6615185a
