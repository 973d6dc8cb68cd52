/-
  leastAt: the search.
-/
import Derived.Test.Qxb6615185aShort
namespace Go.Proofs.Qxb6615185a
open Go.RowKit

/-- What the search answers. -/
def LSpec (fs : List Nat) (t p r0 scale limit : Nat) (r : Nat) : Prop :=
  (Fl.good fs t p r0 0 ∧ r = 0) ∨ (¬ Fl.good fs t p r0 limit ∧ r = 9218868437227405312) ∨
  (¬ Fl.good fs t p r0 0 ∧ Fl.good fs t p r0 limit ∧ ∃ l, l < r ∧ r ≤ limit ∧ Fl.good fs t p r0 r ∧ ¬ Fl.good fs t p r0 l ∧ Fl.wid r l ≤ Fl.tol (if scale < l then l else scale))

def LPost (w : World) (fs : List Nat) (t p r0 scale limit : Nat) (e : Ending) (w' : World) : Prop :=
  ∃ r n, e = .returned (.float .f64 r) ∧ w' = w.drewN n ∧ LSpec fs t p r0 scale limit r

def fltOf : Value → Nat
  | .float _ b => b
  | _ => 0
theorem fltOf_float (k : FloatKind) (b : Nat) : fltOf (.float k b) = b := rfl
/-- The bracketing ends: a step that is doubled climbs till it is infinite; then an end is reached. -/
def mes (z : Nat) (x st : Value) : Nat := 2 * (Fl.inf - fltOf st) + (if fltOf x = z then 0 else 1)

theorem Val.ge {fs : List Nat} {t p r0 x v : Nat} (h : Val fs t p r0 x v) (g : Fl.good fs t p r0 x) : ¬ Fl.key v < 0 := by have := h.iff.2 g; omega
theorem Val.lt {fs : List Nat} {t p r0 x v : Nat} (h : Val fs t p r0 x v) (g : ¬ Fl.good fs t p r0 x) : Fl.key v < 0 := by
  by_cases hk : 0 ≤ Fl.key v
  · exact absurd (h.iff.1 hk) g
  · omega

theorem ge0 {v : Nat} (h : Fl.ok v) : (FloatKind.f64.format.order v 0 == some .gt || FloatKind.f64.format.order v 0 == some .eq) = decide (0 ≤ Fl.key v) := by
  rw [ord_ge h (Fl.ok_pos (by decide))]; rfl
theorem lt0 {v : Nat} (h : Fl.ok v) : (FloatKind.f64.format.order v 0 == some .lt) = decide (Fl.key v < 0) := by
  rw [ord_lt h (Fl.ok_pos (by decide))]; rfl

theorem mes_drop {z l l' s s' : Nat} (hl : l ≠ z) (hs' : s' ≤ Fl.inf) (hs : s ≤ Fl.inf) (h1 : s < Fl.inf → s < s') (h2 : s = Fl.inf → s' = Fl.inf) (h3 : s = Fl.inf → l' = z) :
    mes z (.float .f64 l') (.float .f64 s') < mes z (.float .f64 l) (.float .f64 s) := by
  show 2 * (Fl.inf - s') + (if l' = z then 0 else 1) < 2 * (Fl.inf - s) + (if l = z then 0 else 1)
  rw [if_neg hl]
  rcases Nat.lt_or_eq_of_le hs with h | h
  · have := h1 h; split <;> omega
  · rw [if_pos (h3 h), h2 h]; omega

theorem isinf_no (x : Nat) (hx : x < Fl.inf) (w : World) : Calls Try.prog 20 #[.float .f64 x, .int .i64 1] w fun e w' => e = .returned (.bool false) ∧ w' = w := by
  have hlt := Fl.inf_lt
  refine (isinf_any x (Fl.ok_pos (Nat.le_of_lt hx)) w).mono ?_
  rintro e w' ⟨rfl, rfl⟩
  refine ⟨?_, rfl⟩
  rw [decide_eq_false]
  rw [Fl.key_pos (by decide), Fl.key_pos (by omega)]
  have := Fl.inf_lit; omega
theorem isinf_yes (w : World) : Calls Try.prog 20 #[.float .f64 Fl.inf, .int .i64 1] w fun e w' => e = .returned (.bool true) ∧ w' = w := by
  refine (isinf_any Fl.inf (Fl.ok_pos (Nat.le_refl _)) w).mono ?_
  rintro e w' ⟨rfl, rfl⟩
  refine ⟨?_, rfl⟩
  rw [decide_eq_true]
  rw [Fl.key_pos (by decide), Fl.key_pos (by decide)]
  have := Fl.inf_lit; omega

theorem between {x l u : Nat} (hx : x < 2 ^ 64) (hl : l < Fl.inf) (hu : u < Fl.inf) (h1 : (FloatKind.f64.format.order x l == some .gt) = true) (h2 : (FloatKind.f64.format.order x u == some .lt) = true) : l < x ∧ x < u := by
  have hlt := Fl.inf_lt
  have hk := ok_of_ord hx (beq_iff_eq.1 h1)
  rw [ord_gt hk (Fl.ok_pos (Nat.le_of_lt hl)), decide_eq_true_eq, Fl.key_pos (x := l) (by omega)] at h1
  rw [ord_lt hk (Fl.ok_pos (Nat.le_of_lt hu)), decide_eq_true_eq, Fl.key_pos (x := u) (by omega)] at h2
  obtain ⟨a, b⟩ := pos_of_key (c := l + 1) hk (by omega) (by omega)
  omega

set_option maxHeartbeats 16000000 in
set_option maxRecDepth 100000 in
theorem leastAt_any (fs : List Nat) (t p r r0 : Nat) (a : Option Addr) (cap br bd bp bt scale limit guess : Nat) (w : World) (E : Env w fs t p r a cap br bd bp bt) (hn : fs.length ≤ 65536)
    (ht : Fl.ok t) (hf : ∀ f ∈ fs, f < Fl.inf) (hp : p < Fl.inf) (hr : Fl.ok r) (hr0 : Fl.key r = Fl.ofN r0) (hr1 : r0 ≤ 1)
    (hs0 : Fl.s0 ≤ scale) (hsl : scale ≤ limit) (hli : limit < Fl.inf) (hg : Fl.ok guess) :
    Calls Try.prog 18 #[.func (.func 15) #[] #[.pointer (some ⟨br, 0, none⟩), .pointer (some ⟨bd, 0, none⟩), .pointer (some ⟨bp, 0, none⟩)], .float .f64 scale, .float .f64 limit, .float .f64 guess] w
      fun e w' => LPost w fs t p r0 scale limit e w' := by
  have hlt := Fl.inf_lt
  -- f's contract
  have HF : Hid (∀ (n x : Nat), x < Fl.inf → Calls Try.prog 15 #[.float .f64 x, .pointer (some ⟨br, 0, none⟩), .pointer (some ⟨bd, 0, none⟩), .pointer (some ⟨bp, 0, none⟩)] (w.drewN n)
      fun e w' => ∃ v, e = .returned (.float .f64 v) ∧ w' = w.drewN n ∧ Val fs t p r0 x v) :=
    fun n x hx => short_any fs t p r r0 a cap br bd bp bt x (w.drewN n) (E.drewN n) hn (Fl.fin_pos hx) ht hf hp hr hr0 hr1
  have HM : Hid (∀ x y : Nat, x ≤ y → y < Fl.inf → Fl.good fs t p r0 x → Fl.good fs t p r0 y) := fun x y h1 h2 h3 => Fl.good_mono hn hr1 hf h1 h2 h3
  clear E ht hf hr hr0
  -- the start
  obtain ⟨m, m1, h_1, h_2, m2, h_3⟩ := max0_run hg
  clear h_1 h_2 h_3
  have mn := fun ts t w => min_run (x := m) (y := limit) (by omega) m1 (by omega) (Nat.le_of_lt hli) ts t w
  obtain ⟨x0, hx0, hx1⟩ : ∃ x0, x0 ≤ limit ∧ (if limit < m then limit else m) = x0 := ⟨_, by split <;> omega, rfl⟩
  rw [hx1] at mn
  clear hx1
  obtain ⟨d1, dv1, dv2⟩ := Fl.div_any (x := x0) (y := Fl.c50) (by omega) (by decide) (by decide)
  obtain ⟨d2, dw1, dw2, dw3⟩ := Fl.step_pos hs0 (by omega)
  have q1 := fun t w => run_float_arith (P := Try.prog) w .quo t .f64 x0 4632233691727265792 d1 dv1
  have q2 := fun t w => run_float_arith (P := Try.prog) w .quo t .f64 scale 4652007308841189376 d2 dw1
  have mx := fun ts t w => max_run (x := d1) (y := d2) (by omega) dv2 (by omega) dw3 ts t w
  obtain ⟨st0, hst0, hst1, hst2⟩ : ∃ st0, 0 < st0 ∧ st0 ≤ Fl.inf ∧ (if d1 < d2 then d2 else d1) = st0 := ⟨_, by split <;> omega, by split <;> omega, rfl⟩
  rw [hst2] at mx
  clear hst2 dv1 dw1 dv2 dw2 dw3 m1
  go_enter Try.func18, Try.ntmps18
  go_wp2_with (go_at_call 15; refine (HF.out 0 _ (by omega)).mono ?_; rintro e w' ⟨v, rfl, rfl, hv⟩)
  have HV : Hid (Val fs t p r0 x0 v) := hv
  clear hv q1 q2 mx mn m2
  go_loop [10, 11, 12, 13, 14] (fun lo up fl fu st => ∃ l u vl vu s : Nat, lo = .float .f64 l ∧ up = .float .f64 u ∧ fl = .float .f64 vl ∧ fu = .float .f64 vu ∧ st = .float .f64 s ∧
      l ≤ u ∧ u ≤ limit ∧ Val fs t p r0 l vl ∧ Val fs t p r0 u vu ∧ (l = u ∨ Fl.good fs t p r0 u) ∧ 0 < s ∧ s ≤ Fl.inf) (fun lo _ _ _ st => mes 0 lo st)
  case atStart => exact ⟨x0, x0, v, v, st0, rfl, rfl, rfl, rfl, rfl, Nat.le_refl _, hx0, HV.out, HV.out, Or.inl rfl, hst0, hst1⟩
  case round =>
    clear HV hst0 hst1 hx0
    obtain ⟨l, u, vl, vu, s, rfl, rfl, rfl, rfl, rfl, hlu, hul, hvl, hvu, hup, hs1, hs2⟩ := hrel
    have HL : Hid (Val fs t p r0 l vl) := hvl
    have HU : Hid (Val fs t p r0 u vu) := hvu
    have HO : Hid (l = u ∨ Fl.good fs t p r0 u) := hup
    have hge := ge0 hvl.fin.ok
    clear hvl hvu hup
    by_cases hgl : Fl.good fs t p r0 l
    · rw [decide_eq_true (HL.out.iff.2 hgl)] at hge
      have HG : Hid (Fl.good fs t p r0 l) := hgl
      clear hgl
      have heq := ord_eq (x := l) (y := 0) (Fl.ok_pos (by omega)) (Fl.ok_pos (by decide))
      rw [Fl.key_pos (by omega), Fl.key_pos (by decide)] at heq
      by_cases hz : l = 0
      · subst hz
        rw [decide_eq_true (by omega)] at heq
        go_wp2
        go_ret
        exact ⟨0, 0, rfl, rfl, Or.inl ⟨HG.out, rfl⟩⟩
      · rw [decide_eq_false (by omega)] at heq
        obtain ⟨d, da, db, dc, dd⟩ := Fl.down_step (lo := l) (st := s) (by omega) hs2
        obtain ⟨l', la, lb, lc, h_1, ld⟩ := max0_run db
        clear h_1
        obtain ⟨s', sa, sb, sc, sd, se⟩ := Fl.dbl_step hs1 hs2
        have hsub := fun t w => run_float_arith (P := Try.prog) w .sub t .f64 l s d da
        have hmul := fun t w => run_float_arith (P := Try.prog) w .mul t .f64 s 4611686018427387904 s' sa
        have hl'l : l' ≤ l := by
          rcases lb with h | ⟨h1, h2⟩
          · omega
          · omega
        have HZ : Hid (s = Fl.inf → l' = 0) := fun h => lc (by have := dd h; omega)
        have HS : Hid (s < Fl.inf → s < s') := sd
        have HE : Hid (s = Fl.inf → s' = Fl.inf) := se
        clear lb lc dd da db dc sa sd se la
        go_wp2_with (go_at_call 15; refine (HF.out 0 _ (by omega)).mono ?_; rintro e w' ⟨v', rfl, rfl, hv'⟩)
        go_round
        case rel => exact ⟨l', l, v', vl, s', rfl, rfl, rfl, rfl, rfl, hl'l, by omega, by assumption, HL.out, Or.inr HG.out, sc, sb⟩
        case measure => exact mes_drop hz sb hs2 HS.out HE.out HZ.out
    · rw [decide_eq_false (fun h => hgl (HL.out.iff.1 h))] at hge
      have HNL : Hid (¬ Fl.good fs t p r0 l) := hgl
      clear hgl
      have hl0 := lt0 HU.out.fin.ok
      by_cases hlim : Fl.good fs t p r0 limit
      · have HGL : Hid (Fl.good fs t p r0 limit) := hlim
        clear hlim
        by_cases hgu : Fl.good fs t p r0 u
        · rw [decide_eq_false (HU.out.ge hgu)] at hl0
          clear hgu
          go_wp2_with fail
          have HLV : Hid (Fl.fin vl) := HL.out.fin
          clear HL HO hl0 hge
          go_loop [10, 11, 12, 13, 14] (fun lo up fl fu st => ∃ l u vl vu s : Nat, lo = .float .f64 l ∧ up = .float .f64 u ∧ fl = .float .f64 vl ∧ fu = .float .f64 vu ∧ st = .float .f64 s ∧
              l ≤ u ∧ u ≤ limit ∧ ¬ Fl.good fs t p r0 l ∧ Fl.fin vl ∧ Val fs t p r0 u vu ∧ 0 < s ∧ s ≤ Fl.inf) (fun _ up _ _ st => mes limit up st)
          case atStart => exact ⟨l, u, vl, vu, s, rfl, rfl, rfl, rfl, rfl, hlu, hul, HNL.out, HLV.out, HU.out, hs1, hs2⟩
          case round =>
            clear HNL HLV HU hlu hul hs1 hs2
            obtain ⟨l, u, vl, vu, s, rfl, rfl, rfl, rfl, rfl, hlu, hul, hnl, hfl, hvu, hs1, hs2⟩ := hrel
            have HNL : Hid (¬ Fl.good fs t p r0 l) := hnl
            have HLV : Hid (Fl.fin vl) := hfl
            have HU : Hid (Val fs t p r0 u vu) := hvu
            have hl0 := lt0 hvu.fin.ok
            clear hnl hfl hvu
            by_cases hgu : Fl.good fs t p r0 u
            · rw [decide_eq_false (HU.out.ge hgu)] at hl0
              have HGU : Hid (Fl.good fs t p r0 u) := hgu
              clear hgu
              go_wp2_with fail
              have HUV : Hid (Fl.fin vu) := HU.out.fin
              have hlu' : l < u := by
                rcases Nat.lt_or_eq_of_le hlu with h | h
                · exact h
                · subst h; exact absurd HGU.out HNL.out
              clear HU hl0 hlu
              go_loopw [10, 11, 12, 13, 15, 16, 17] (fun lo up fl fu mv _ _ wr => ∃ (l u vl vu : Nat) (k : Int) (nd : Nat), lo = .float .f64 l ∧ up = .float .f64 u ∧ fl = .float .f64 vl ∧ fu = .float .f64 vu ∧ mv = .int .i64 k ∧
                  l < u ∧ u ≤ limit ∧ ¬ Fl.good fs t p r0 l ∧ Fl.good fs t p r0 u ∧ Fl.fin vl ∧ Fl.fin vu ∧ wr = w.drewN nd) (fun lo up _ _ _ _ _ _ => fltOf up - fltOf lo)
              case atStart => exact ⟨l, u, vl, vu, 0, 0, rfl, rfl, rfl, rfl, rfl, hlu', hul, HNL.out, HGU.out, HLV.out, HUV.out, rfl⟩
              case round =>
                clear HNL HGU HLV HUV hlu' hul hs1 hs2
                obtain ⟨l, u, vl, vu, k, nd, rfl, rfl, rfl, rfl, rfl, hlu, hul, hnl, hgu, hfl, hfu, hwr⟩ := hrel
                subst hwr
                have HNL : Hid (¬ Fl.good fs t p r0 l) := hnl
                have HGU : Hid (Fl.good fs t p r0 u) := hgu
                have HLV : Hid (Fl.fin vl) := hfl
                have HUV : Hid (Fl.fin vu) := hfu
                clear hnl hgu hfl hfu
                have mx := fun ts t w => max_run (x := scale) (y := l) (by omega) (by omega) (by omega) (by omega) ts t w
                obtain ⟨M, Ma, Mb, Mc, Md⟩ : ∃ M, Fl.s0 ≤ M ∧ l ≤ M ∧ M < Fl.inf ∧ (if scale < l then l else scale) = M := ⟨_, by split <;> omega, by split <;> omega, by split <;> omega, rfl⟩
                rw [Md] at mx
                have HMd : Hid ((if scale < l then l else scale) = M) := Md
                clear Md
                obtain ⟨wa, wb⟩ := Fl.wid_sub hlu (by omega)
                have hsub := fun t w => run_float_arith (P := Try.prog) w .sub t .f64 u l _ wa
                have hmul := fun t w => run_float_arith (P := Try.prog) w .mul t .f64 4472406533629990549 M _ (Fl.tol_mul Mc)
                have tb := (Fl.tol_bounds Ma Mc).2
                have ho := ord_gt (x := Fl.wid u l) (y := Fl.tol M) (Fl.ok_pos (by omega)) (Fl.ok_pos (by omega))
                rw [Fl.key_pos (by omega), Fl.key_pos (by omega)] at ho
                by_cases hwd : Fl.tol M < Fl.wid u l
                · rw [decide_eq_true (by omega)] at ho
                  have hw3 := Fl.wide (Nat.le_of_lt hlu) Mb Ma hwd
                  clear hwd HMd
                  obtain ⟨pm, pma, _⟩ := Fl.mul_fin HUV.out (Fl.fin_pos wb)
                  obtain ⟨dv, dva, _, _⟩ := Fl.sub_key HUV.out HLV.out
                  have hmul2 := fun t w => run_float_arith (P := Try.prog) w .mul t .f64 vu (Fl.wid u l) pm pma
                  have hsub2 := fun t w => run_float_arith (P := Try.prog) w .sub t .f64 vu vl dv dva
                  clear wa wb tb pma dva
                  generalize Fl.wid u l = D at *
                  generalize Fl.tol M = T at *
                  obtain ⟨q, n1, _, hq⟩ := arith_any .quo (Or.inr rfl) pm dv nd w
                  obtain ⟨x, n2, hx64, hxs⟩ := arith_any .sub (Or.inl rfl) u q n1 w
                  obtain ⟨hvl, hvla, hvlb⟩ := Fl.half_fin HLV.out
                  obtain ⟨hvu, hvua, hvub⟩ := Fl.half_fin HUV.out
                  have hhl := fun t w => run_float_arith (P := Try.prog) w .quo t .f64 vl 4611686018427387904 hvl hvla
                  have hhu := fun t w => run_float_arith (P := Try.prog) w .quo t .f64 vu 4611686018427387904 hvu hvua
                  have HHL : Hid (Fl.fin hvl) := hvlb
                  have HHU : Hid (Fl.fin hvu) := hvub
                  clear hvla hvlb hvua hvub
                  cases b1 : (FloatKind.f64.format.order x l == some .gt)
                  · clear hx64
                    by_cases hsm : Fl.rg (Fl.val l + Fl.val u) (-1074) < Fl.inf
                    · obtain ⟨x, xa, hxl, hxu⟩ := Fl.mid_one hw3 (by omega) hsm
                      have hadd := fun t w => run_float_arith (P := Try.prog) w .add t .f64 l u _ (Fl.add_pos' (by omega) (by omega) (by omega))
                      have hquo := fun t w => run_float_arith (P := Try.prog) w .quo t .f64 _ 4611686018427387904 x xa
                      generalize Fl.rg (Fl.val l + Fl.val u) (-1074) = sm at hadd hquo
                      clear xa hsm
                      by_cases hgx : Fl.good fs t p r0 x
                      · have HGX : Hid (Fl.good fs t p r0 x) := hgx
                        clear hgx
                        go_wp2_with (first | (go_at_call 20; refine (isinf_no _ (by omega) _).mono ?_; rintro e w' ⟨rfl, rfl⟩) | (go_at_call 15; refine (HF.out n2 _ (by omega)).mono ?_; rintro e w' ⟨v', rfl, rfl, hv'⟩; have hge' := ge0 hv'.fin.ok; rw [decide_eq_true (hv'.iff.2 HGX.out)] at hge'; have HV' : Hid (Val fs t p r0 x v') := hv'; clear hv'))
                        all_goals
                          go_roundw
                          case rel => first
                            | exact ⟨l, x, vl, v', _, n2, rfl, rfl, rfl, rfl, rfl, hxl, by omega, HNL.out, HGX.out, HLV.out, HV'.out.fin, rfl⟩
                            | exact ⟨l, x, hvl, v', _, n2, rfl, rfl, rfl, rfl, rfl, hxl, by omega, HNL.out, HGX.out, HHL.out, HV'.out.fin, rfl⟩
                          case measure => show x - l < u - l; omega
                      · have HGX : Hid (¬ Fl.good fs t p r0 x) := hgx
                        clear hgx
                        go_wp2_with (first | (go_at_call 20; refine (isinf_no _ (by omega) _).mono ?_; rintro e w' ⟨rfl, rfl⟩) | (go_at_call 15; refine (HF.out n2 _ (by omega)).mono ?_; rintro e w' ⟨v', rfl, rfl, hv'⟩; have hge' := ge0 hv'.fin.ok; rw [decide_eq_false (by have := hv'.lt HGX.out; omega)] at hge'; have HV' : Hid (Val fs t p r0 x v') := hv'; clear hv'))
                        all_goals
                          go_roundw
                          case rel => first
                            | exact ⟨x, u, v', vu, _, n2, rfl, rfl, rfl, rfl, rfl, hxu, hul, HGX.out, HGU.out, HV'.out.fin, HUV.out, rfl⟩
                            | exact ⟨x, u, v', hvu, _, n2, rfl, rfl, rfl, rfl, rfl, hxu, hul, HGX.out, HGU.out, HV'.out.fin, HHU.out, rfl⟩
                          case measure => show u - x < u - l; omega
                    · obtain ⟨xb, xc, x, xa1, xa2, xa3, hxl, hxu⟩ := Fl.mid_two hw3 (by omega) (by have := Fl.rg_le_inf (Fl.val l + Fl.val u) (-1074); have e : Fl.inf = 2047 * 2 ^ 52 := rfl; omega)
                      have hadd := fun t w => run_float_arith (P := Try.prog) w .add t .f64 l u _ (Fl.add_pos' (by omega) (by omega) (by omega))
                      rw [show Fl.rg (Fl.val l + Fl.val u) (-1074) = Fl.inf by have := Fl.rg_le_inf (Fl.val l + Fl.val u) (-1074); have e : Fl.inf = 2047 * 2 ^ 52 := rfl; omega] at hadd
                      have hquo := fun t w => run_float_arith (P := Try.prog) w .quo t .f64 Fl.inf 4611686018427387904 Fl.inf Fl.inf_div_two
                      have hquo1 := fun t w => run_float_arith (P := Try.prog) w .quo t .f64 l 4611686018427387904 xb xa1
                      have hquo2 := fun t w => run_float_arith (P := Try.prog) w .quo t .f64 u 4611686018427387904 xc xa2
                      have hadd2 := fun t w => run_float_arith (P := Try.prog) w .add t .f64 xb xc x xa3
                      clear xa1 xa2 xa3 hsm
                      by_cases hgx : Fl.good fs t p r0 x
                      · have HGX : Hid (Fl.good fs t p r0 x) := hgx
                        clear hgx
                        go_wp2_with (first | (go_at_call 20; refine (isinf_yes _).mono ?_; rintro e w' ⟨rfl, rfl⟩) | (go_at_call 15; refine (HF.out n2 _ (by omega)).mono ?_; rintro e w' ⟨v', rfl, rfl, hv'⟩; have hge' := ge0 hv'.fin.ok; rw [decide_eq_true (hv'.iff.2 HGX.out)] at hge'; have HV' : Hid (Val fs t p r0 x v') := hv'; clear hv'))
                        all_goals
                          go_roundw
                          case rel => first
                            | exact ⟨l, x, vl, v', _, n2, rfl, rfl, rfl, rfl, rfl, hxl, by omega, HNL.out, HGX.out, HLV.out, HV'.out.fin, rfl⟩
                            | exact ⟨l, x, hvl, v', _, n2, rfl, rfl, rfl, rfl, rfl, hxl, by omega, HNL.out, HGX.out, HHL.out, HV'.out.fin, rfl⟩
                          case measure => show x - l < u - l; omega
                      · have HGX : Hid (¬ Fl.good fs t p r0 x) := hgx
                        clear hgx
                        go_wp2_with (first | (go_at_call 20; refine (isinf_yes _).mono ?_; rintro e w' ⟨rfl, rfl⟩) | (go_at_call 15; refine (HF.out n2 _ (by omega)).mono ?_; rintro e w' ⟨v', rfl, rfl, hv'⟩; have hge' := ge0 hv'.fin.ok; rw [decide_eq_false (by have := hv'.lt HGX.out; omega)] at hge'; have HV' : Hid (Val fs t p r0 x v') := hv'; clear hv'))
                        all_goals
                          go_roundw
                          case rel => first
                            | exact ⟨x, u, v', vu, _, n2, rfl, rfl, rfl, rfl, rfl, hxu, hul, HGX.out, HGU.out, HV'.out.fin, HUV.out, rfl⟩
                            | exact ⟨x, u, v', hvu, _, n2, rfl, rfl, rfl, rfl, rfl, hxu, hul, HGX.out, HGU.out, HV'.out.fin, HHU.out, rfl⟩
                          case measure => show u - x < u - l; omega
                  · cases b2 : (FloatKind.f64.format.order x u == some .lt)
                    · clear hx64
                      by_cases hsm : Fl.rg (Fl.val l + Fl.val u) (-1074) < Fl.inf
                      · obtain ⟨x, xa, hxl, hxu⟩ := Fl.mid_one hw3 (by omega) hsm
                        have hadd := fun t w => run_float_arith (P := Try.prog) w .add t .f64 l u _ (Fl.add_pos' (by omega) (by omega) (by omega))
                        have hquo := fun t w => run_float_arith (P := Try.prog) w .quo t .f64 _ 4611686018427387904 x xa
                        generalize Fl.rg (Fl.val l + Fl.val u) (-1074) = sm at hadd hquo
                        clear xa hsm
                        by_cases hgx : Fl.good fs t p r0 x
                        · have HGX : Hid (Fl.good fs t p r0 x) := hgx
                          clear hgx
                          go_wp2_with (first | (go_at_call 20; refine (isinf_no _ (by omega) _).mono ?_; rintro e w' ⟨rfl, rfl⟩) | (go_at_call 15; refine (HF.out n2 _ (by omega)).mono ?_; rintro e w' ⟨v', rfl, rfl, hv'⟩; have hge' := ge0 hv'.fin.ok; rw [decide_eq_true (hv'.iff.2 HGX.out)] at hge'; have HV' : Hid (Val fs t p r0 x v') := hv'; clear hv'))
                          all_goals
                            go_roundw
                            case rel => first
                              | exact ⟨l, x, vl, v', _, n2, rfl, rfl, rfl, rfl, rfl, hxl, by omega, HNL.out, HGX.out, HLV.out, HV'.out.fin, rfl⟩
                              | exact ⟨l, x, hvl, v', _, n2, rfl, rfl, rfl, rfl, rfl, hxl, by omega, HNL.out, HGX.out, HHL.out, HV'.out.fin, rfl⟩
                            case measure => show x - l < u - l; omega
                        · have HGX : Hid (¬ Fl.good fs t p r0 x) := hgx
                          clear hgx
                          go_wp2_with (first | (go_at_call 20; refine (isinf_no _ (by omega) _).mono ?_; rintro e w' ⟨rfl, rfl⟩) | (go_at_call 15; refine (HF.out n2 _ (by omega)).mono ?_; rintro e w' ⟨v', rfl, rfl, hv'⟩; have hge' := ge0 hv'.fin.ok; rw [decide_eq_false (by have := hv'.lt HGX.out; omega)] at hge'; have HV' : Hid (Val fs t p r0 x v') := hv'; clear hv'))
                          all_goals
                            go_roundw
                            case rel => first
                              | exact ⟨x, u, v', vu, _, n2, rfl, rfl, rfl, rfl, rfl, hxu, hul, HGX.out, HGU.out, HV'.out.fin, HUV.out, rfl⟩
                              | exact ⟨x, u, v', hvu, _, n2, rfl, rfl, rfl, rfl, rfl, hxu, hul, HGX.out, HGU.out, HV'.out.fin, HHU.out, rfl⟩
                            case measure => show u - x < u - l; omega
                      · obtain ⟨xb, xc, x, xa1, xa2, xa3, hxl, hxu⟩ := Fl.mid_two hw3 (by omega) (by have := Fl.rg_le_inf (Fl.val l + Fl.val u) (-1074); have e : Fl.inf = 2047 * 2 ^ 52 := rfl; omega)
                        have hadd := fun t w => run_float_arith (P := Try.prog) w .add t .f64 l u _ (Fl.add_pos' (by omega) (by omega) (by omega))
                        rw [show Fl.rg (Fl.val l + Fl.val u) (-1074) = Fl.inf by have := Fl.rg_le_inf (Fl.val l + Fl.val u) (-1074); have e : Fl.inf = 2047 * 2 ^ 52 := rfl; omega] at hadd
                        have hquo := fun t w => run_float_arith (P := Try.prog) w .quo t .f64 Fl.inf 4611686018427387904 Fl.inf Fl.inf_div_two
                        have hquo1 := fun t w => run_float_arith (P := Try.prog) w .quo t .f64 l 4611686018427387904 xb xa1
                        have hquo2 := fun t w => run_float_arith (P := Try.prog) w .quo t .f64 u 4611686018427387904 xc xa2
                        have hadd2 := fun t w => run_float_arith (P := Try.prog) w .add t .f64 xb xc x xa3
                        clear xa1 xa2 xa3 hsm
                        by_cases hgx : Fl.good fs t p r0 x
                        · have HGX : Hid (Fl.good fs t p r0 x) := hgx
                          clear hgx
                          go_wp2_with (first | (go_at_call 20; refine (isinf_yes _).mono ?_; rintro e w' ⟨rfl, rfl⟩) | (go_at_call 15; refine (HF.out n2 _ (by omega)).mono ?_; rintro e w' ⟨v', rfl, rfl, hv'⟩; have hge' := ge0 hv'.fin.ok; rw [decide_eq_true (hv'.iff.2 HGX.out)] at hge'; have HV' : Hid (Val fs t p r0 x v') := hv'; clear hv'))
                          all_goals
                            go_roundw
                            case rel => first
                              | exact ⟨l, x, vl, v', _, n2, rfl, rfl, rfl, rfl, rfl, hxl, by omega, HNL.out, HGX.out, HLV.out, HV'.out.fin, rfl⟩
                              | exact ⟨l, x, hvl, v', _, n2, rfl, rfl, rfl, rfl, rfl, hxl, by omega, HNL.out, HGX.out, HHL.out, HV'.out.fin, rfl⟩
                            case measure => show x - l < u - l; omega
                        · have HGX : Hid (¬ Fl.good fs t p r0 x) := hgx
                          clear hgx
                          go_wp2_with (first | (go_at_call 20; refine (isinf_yes _).mono ?_; rintro e w' ⟨rfl, rfl⟩) | (go_at_call 15; refine (HF.out n2 _ (by omega)).mono ?_; rintro e w' ⟨v', rfl, rfl, hv'⟩; have hge' := ge0 hv'.fin.ok; rw [decide_eq_false (by have := hv'.lt HGX.out; omega)] at hge'; have HV' : Hid (Val fs t p r0 x v') := hv'; clear hv'))
                          all_goals
                            go_roundw
                            case rel => first
                              | exact ⟨x, u, v', vu, _, n2, rfl, rfl, rfl, rfl, rfl, hxu, hul, HGX.out, HGU.out, HV'.out.fin, HUV.out, rfl⟩
                              | exact ⟨x, u, v', hvu, _, n2, rfl, rfl, rfl, rfl, rfl, hxu, hul, HGX.out, HGU.out, HV'.out.fin, HHU.out, rfl⟩
                            case measure => show u - x < u - l; omega
                    · obtain ⟨hxl, hxu⟩ := between hx64 (by omega) (by omega) b1 b2
                      clear hx64
                      by_cases hgx : Fl.good fs t p r0 x
                      · have HGX : Hid (Fl.good fs t p r0 x) := hgx
                        clear hgx
                        go_wp2_with ((go_at_call 15; refine (HF.out n2 _ (by omega)).mono ?_; rintro e w' ⟨v', rfl, rfl, hv'⟩; have hge' := ge0 hv'.fin.ok; rw [decide_eq_true (hv'.iff.2 HGX.out)] at hge'; have HV' : Hid (Val fs t p r0 x v') := hv'; clear hv'))
                        all_goals
                          go_roundw
                          case rel => first
                            | exact ⟨l, x, vl, v', _, n2, rfl, rfl, rfl, rfl, rfl, hxl, by omega, HNL.out, HGX.out, HLV.out, HV'.out.fin, rfl⟩
                            | exact ⟨l, x, hvl, v', _, n2, rfl, rfl, rfl, rfl, rfl, hxl, by omega, HNL.out, HGX.out, HHL.out, HV'.out.fin, rfl⟩
                          case measure => show x - l < u - l; omega
                      · have HGX : Hid (¬ Fl.good fs t p r0 x) := hgx
                        clear hgx
                        go_wp2_with ((go_at_call 15; refine (HF.out n2 _ (by omega)).mono ?_; rintro e w' ⟨v', rfl, rfl, hv'⟩; have hge' := ge0 hv'.fin.ok; rw [decide_eq_false (by have := hv'.lt HGX.out; omega)] at hge'; have HV' : Hid (Val fs t p r0 x v') := hv'; clear hv'))
                        all_goals
                          go_roundw
                          case rel => first
                            | exact ⟨x, u, v', vu, _, n2, rfl, rfl, rfl, rfl, rfl, hxu, hul, HGX.out, HGU.out, HV'.out.fin, HUV.out, rfl⟩
                            | exact ⟨x, u, v', hvu, _, n2, rfl, rfl, rfl, rfl, rfl, hxu, hul, HGX.out, HGU.out, HV'.out.fin, HHU.out, rfl⟩
                          case measure => show u - x < u - l; omega
                · rw [decide_eq_false (by omega)] at ho
                  clear wa wb tb
                  go_wp2_with fail
                  go_ret
                  exact ⟨u, nd, rfl, rfl, Or.inr (Or.inr ⟨fun h => HNL.out (HM.out 0 l (Nat.zero_le _) (by omega) h), HGL.out, l, hlu, hul, HGU.out, HNL.out, by rw [HMd.out]; omega⟩)⟩
            · rw [decide_eq_true (HU.out.lt hgu)] at hl0
              have HGU : Hid (¬ Fl.good fs t p r0 u) := hgu
              have hne : u ≠ limit := fun h => by subst h; exact hgu HGL.out
              clear hgu
              obtain ⟨y, ya, yb, yc, yd⟩ := Fl.up_step (up := u) (st := s) (by omega) hs1 hs2
              obtain ⟨s', sa, sb, sc, sd, se⟩ := Fl.dbl_step hs1 hs2
              have hadd := fun t w => run_float_arith (P := Try.prog) w .add t .f64 u s y ya
              have hmul := fun t w => run_float_arith (P := Try.prog) w .mul t .f64 s 4611686018427387904 s' sa
              have mn := fun ts t w => min_run (x := limit) (y := y) (by omega) (Nat.le_of_lt hli) (by omega) yb ts t w
              obtain ⟨u', ua, ub, uc, ud⟩ : ∃ u', u' ≤ limit ∧ u ≤ u' ∧ (s = Fl.inf → u' = limit) ∧ (if y < limit then y else limit) = u' :=
                ⟨_, by split <;> omega, by split <;> omega, fun h => by rw [if_neg (by have := yd h; omega)], rfl⟩
              rw [ud] at mn
              have HZ : Hid (s = Fl.inf → u' = limit) := uc
              have HS : Hid (s < Fl.inf → s < s') := sd
              have HE : Hid (s = Fl.inf → s' = Fl.inf) := se
              clear ya yc yd sa sd se uc ud
              go_wp2_with (go_at_call 15; refine (HF.out 0 _ (by omega)).mono ?_; rintro e w' ⟨v', rfl, rfl, hv'⟩)
              go_round
              case rel => exact ⟨u, u', vu, v', s', rfl, rfl, rfl, rfl, rfl, ub, ua, HGU.out, HU.out.fin, by assumption, sc, sb⟩
              case measure => exact mes_drop hne sb hs2 HS.out HE.out HZ.out
        · rw [decide_eq_true (HU.out.lt hgu)] at hl0
          clear hgu
          go_wp2_with (go_at_call 15; refine (HF.out 0 _ (by omega)).mono ?_; rintro e w' ⟨v', rfl, rfl, hv'⟩; have hl1 := lt0 hv'.fin.ok; rw [decide_eq_false (hv'.ge HGL.out)] at hl1; clear hv')
          have HLV : Hid (Fl.fin vl) := HL.out.fin
          clear HL HO hl0 hge
          go_loop [10, 11, 12, 13, 14] (fun lo up fl fu st => ∃ l u vl vu s : Nat, lo = .float .f64 l ∧ up = .float .f64 u ∧ fl = .float .f64 vl ∧ fu = .float .f64 vu ∧ st = .float .f64 s ∧
              l ≤ u ∧ u ≤ limit ∧ ¬ Fl.good fs t p r0 l ∧ Fl.fin vl ∧ Val fs t p r0 u vu ∧ 0 < s ∧ s ≤ Fl.inf) (fun _ up _ _ st => mes limit up st)
          case atStart => exact ⟨l, u, vl, vu, s, rfl, rfl, rfl, rfl, rfl, hlu, hul, HNL.out, HLV.out, HU.out, hs1, hs2⟩
          case round =>
            clear HNL HLV HU hlu hul hs1 hs2
            obtain ⟨l, u, vl, vu, s, rfl, rfl, rfl, rfl, rfl, hlu, hul, hnl, hfl, hvu, hs1, hs2⟩ := hrel
            have HNL : Hid (¬ Fl.good fs t p r0 l) := hnl
            have HLV : Hid (Fl.fin vl) := hfl
            have HU : Hid (Val fs t p r0 u vu) := hvu
            have hl0 := lt0 hvu.fin.ok
            clear hnl hfl hvu
            by_cases hgu : Fl.good fs t p r0 u
            · rw [decide_eq_false (HU.out.ge hgu)] at hl0
              have HGU : Hid (Fl.good fs t p r0 u) := hgu
              clear hgu
              go_wp2_with fail
              have HUV : Hid (Fl.fin vu) := HU.out.fin
              have hlu' : l < u := by
                rcases Nat.lt_or_eq_of_le hlu with h | h
                · exact h
                · subst h; exact absurd HGU.out HNL.out
              clear HU hl0 hlu
              go_loopw [10, 11, 12, 13, 15, 16, 17] (fun lo up fl fu mv _ _ wr => ∃ (l u vl vu : Nat) (k : Int) (nd : Nat), lo = .float .f64 l ∧ up = .float .f64 u ∧ fl = .float .f64 vl ∧ fu = .float .f64 vu ∧ mv = .int .i64 k ∧
                  l < u ∧ u ≤ limit ∧ ¬ Fl.good fs t p r0 l ∧ Fl.good fs t p r0 u ∧ Fl.fin vl ∧ Fl.fin vu ∧ wr = w.drewN nd) (fun lo up _ _ _ _ _ _ => fltOf up - fltOf lo)
              case atStart => exact ⟨l, u, vl, vu, 0, 0, rfl, rfl, rfl, rfl, rfl, hlu', hul, HNL.out, HGU.out, HLV.out, HUV.out, rfl⟩
              case round =>
                clear HNL HGU HLV HUV hlu' hul hs1 hs2
                obtain ⟨l, u, vl, vu, k, nd, rfl, rfl, rfl, rfl, rfl, hlu, hul, hnl, hgu, hfl, hfu, hwr⟩ := hrel
                subst hwr
                have HNL : Hid (¬ Fl.good fs t p r0 l) := hnl
                have HGU : Hid (Fl.good fs t p r0 u) := hgu
                have HLV : Hid (Fl.fin vl) := hfl
                have HUV : Hid (Fl.fin vu) := hfu
                clear hnl hgu hfl hfu
                have mx := fun ts t w => max_run (x := scale) (y := l) (by omega) (by omega) (by omega) (by omega) ts t w
                obtain ⟨M, Ma, Mb, Mc, Md⟩ : ∃ M, Fl.s0 ≤ M ∧ l ≤ M ∧ M < Fl.inf ∧ (if scale < l then l else scale) = M := ⟨_, by split <;> omega, by split <;> omega, by split <;> omega, rfl⟩
                rw [Md] at mx
                have HMd : Hid ((if scale < l then l else scale) = M) := Md
                clear Md
                obtain ⟨wa, wb⟩ := Fl.wid_sub hlu (by omega)
                have hsub := fun t w => run_float_arith (P := Try.prog) w .sub t .f64 u l _ wa
                have hmul := fun t w => run_float_arith (P := Try.prog) w .mul t .f64 4472406533629990549 M _ (Fl.tol_mul Mc)
                have tb := (Fl.tol_bounds Ma Mc).2
                have ho := ord_gt (x := Fl.wid u l) (y := Fl.tol M) (Fl.ok_pos (by omega)) (Fl.ok_pos (by omega))
                rw [Fl.key_pos (by omega), Fl.key_pos (by omega)] at ho
                by_cases hwd : Fl.tol M < Fl.wid u l
                · rw [decide_eq_true (by omega)] at ho
                  have hw3 := Fl.wide (Nat.le_of_lt hlu) Mb Ma hwd
                  clear hwd HMd
                  obtain ⟨pm, pma, _⟩ := Fl.mul_fin HUV.out (Fl.fin_pos wb)
                  obtain ⟨dv, dva, _, _⟩ := Fl.sub_key HUV.out HLV.out
                  have hmul2 := fun t w => run_float_arith (P := Try.prog) w .mul t .f64 vu (Fl.wid u l) pm pma
                  have hsub2 := fun t w => run_float_arith (P := Try.prog) w .sub t .f64 vu vl dv dva
                  clear wa wb tb pma dva
                  generalize Fl.wid u l = D at *
                  generalize Fl.tol M = T at *
                  obtain ⟨q, n1, _, hq⟩ := arith_any .quo (Or.inr rfl) pm dv nd w
                  obtain ⟨x, n2, hx64, hxs⟩ := arith_any .sub (Or.inl rfl) u q n1 w
                  obtain ⟨hvl, hvla, hvlb⟩ := Fl.half_fin HLV.out
                  obtain ⟨hvu, hvua, hvub⟩ := Fl.half_fin HUV.out
                  have hhl := fun t w => run_float_arith (P := Try.prog) w .quo t .f64 vl 4611686018427387904 hvl hvla
                  have hhu := fun t w => run_float_arith (P := Try.prog) w .quo t .f64 vu 4611686018427387904 hvu hvua
                  have HHL : Hid (Fl.fin hvl) := hvlb
                  have HHU : Hid (Fl.fin hvu) := hvub
                  clear hvla hvlb hvua hvub
                  cases b1 : (FloatKind.f64.format.order x l == some .gt)
                  · clear hx64
                    by_cases hsm : Fl.rg (Fl.val l + Fl.val u) (-1074) < Fl.inf
                    · obtain ⟨x, xa, hxl, hxu⟩ := Fl.mid_one hw3 (by omega) hsm
                      have hadd := fun t w => run_float_arith (P := Try.prog) w .add t .f64 l u _ (Fl.add_pos' (by omega) (by omega) (by omega))
                      have hquo := fun t w => run_float_arith (P := Try.prog) w .quo t .f64 _ 4611686018427387904 x xa
                      generalize Fl.rg (Fl.val l + Fl.val u) (-1074) = sm at hadd hquo
                      clear xa hsm
                      by_cases hgx : Fl.good fs t p r0 x
                      · have HGX : Hid (Fl.good fs t p r0 x) := hgx
                        clear hgx
                        go_wp2_with (first | (go_at_call 20; refine (isinf_no _ (by omega) _).mono ?_; rintro e w' ⟨rfl, rfl⟩) | (go_at_call 15; refine (HF.out n2 _ (by omega)).mono ?_; rintro e w' ⟨v', rfl, rfl, hv'⟩; have hge' := ge0 hv'.fin.ok; rw [decide_eq_true (hv'.iff.2 HGX.out)] at hge'; have HV' : Hid (Val fs t p r0 x v') := hv'; clear hv'))
                        all_goals
                          go_roundw
                          case rel => first
                            | exact ⟨l, x, vl, v', _, n2, rfl, rfl, rfl, rfl, rfl, hxl, by omega, HNL.out, HGX.out, HLV.out, HV'.out.fin, rfl⟩
                            | exact ⟨l, x, hvl, v', _, n2, rfl, rfl, rfl, rfl, rfl, hxl, by omega, HNL.out, HGX.out, HHL.out, HV'.out.fin, rfl⟩
                          case measure => show x - l < u - l; omega
                      · have HGX : Hid (¬ Fl.good fs t p r0 x) := hgx
                        clear hgx
                        go_wp2_with (first | (go_at_call 20; refine (isinf_no _ (by omega) _).mono ?_; rintro e w' ⟨rfl, rfl⟩) | (go_at_call 15; refine (HF.out n2 _ (by omega)).mono ?_; rintro e w' ⟨v', rfl, rfl, hv'⟩; have hge' := ge0 hv'.fin.ok; rw [decide_eq_false (by have := hv'.lt HGX.out; omega)] at hge'; have HV' : Hid (Val fs t p r0 x v') := hv'; clear hv'))
                        all_goals
                          go_roundw
                          case rel => first
                            | exact ⟨x, u, v', vu, _, n2, rfl, rfl, rfl, rfl, rfl, hxu, hul, HGX.out, HGU.out, HV'.out.fin, HUV.out, rfl⟩
                            | exact ⟨x, u, v', hvu, _, n2, rfl, rfl, rfl, rfl, rfl, hxu, hul, HGX.out, HGU.out, HV'.out.fin, HHU.out, rfl⟩
                          case measure => show u - x < u - l; omega
                    · obtain ⟨xb, xc, x, xa1, xa2, xa3, hxl, hxu⟩ := Fl.mid_two hw3 (by omega) (by have := Fl.rg_le_inf (Fl.val l + Fl.val u) (-1074); have e : Fl.inf = 2047 * 2 ^ 52 := rfl; omega)
                      have hadd := fun t w => run_float_arith (P := Try.prog) w .add t .f64 l u _ (Fl.add_pos' (by omega) (by omega) (by omega))
                      rw [show Fl.rg (Fl.val l + Fl.val u) (-1074) = Fl.inf by have := Fl.rg_le_inf (Fl.val l + Fl.val u) (-1074); have e : Fl.inf = 2047 * 2 ^ 52 := rfl; omega] at hadd
                      have hquo := fun t w => run_float_arith (P := Try.prog) w .quo t .f64 Fl.inf 4611686018427387904 Fl.inf Fl.inf_div_two
                      have hquo1 := fun t w => run_float_arith (P := Try.prog) w .quo t .f64 l 4611686018427387904 xb xa1
                      have hquo2 := fun t w => run_float_arith (P := Try.prog) w .quo t .f64 u 4611686018427387904 xc xa2
                      have hadd2 := fun t w => run_float_arith (P := Try.prog) w .add t .f64 xb xc x xa3
                      clear xa1 xa2 xa3 hsm
                      by_cases hgx : Fl.good fs t p r0 x
                      · have HGX : Hid (Fl.good fs t p r0 x) := hgx
                        clear hgx
                        go_wp2_with (first | (go_at_call 20; refine (isinf_yes _).mono ?_; rintro e w' ⟨rfl, rfl⟩) | (go_at_call 15; refine (HF.out n2 _ (by omega)).mono ?_; rintro e w' ⟨v', rfl, rfl, hv'⟩; have hge' := ge0 hv'.fin.ok; rw [decide_eq_true (hv'.iff.2 HGX.out)] at hge'; have HV' : Hid (Val fs t p r0 x v') := hv'; clear hv'))
                        all_goals
                          go_roundw
                          case rel => first
                            | exact ⟨l, x, vl, v', _, n2, rfl, rfl, rfl, rfl, rfl, hxl, by omega, HNL.out, HGX.out, HLV.out, HV'.out.fin, rfl⟩
                            | exact ⟨l, x, hvl, v', _, n2, rfl, rfl, rfl, rfl, rfl, hxl, by omega, HNL.out, HGX.out, HHL.out, HV'.out.fin, rfl⟩
                          case measure => show x - l < u - l; omega
                      · have HGX : Hid (¬ Fl.good fs t p r0 x) := hgx
                        clear hgx
                        go_wp2_with (first | (go_at_call 20; refine (isinf_yes _).mono ?_; rintro e w' ⟨rfl, rfl⟩) | (go_at_call 15; refine (HF.out n2 _ (by omega)).mono ?_; rintro e w' ⟨v', rfl, rfl, hv'⟩; have hge' := ge0 hv'.fin.ok; rw [decide_eq_false (by have := hv'.lt HGX.out; omega)] at hge'; have HV' : Hid (Val fs t p r0 x v') := hv'; clear hv'))
                        all_goals
                          go_roundw
                          case rel => first
                            | exact ⟨x, u, v', vu, _, n2, rfl, rfl, rfl, rfl, rfl, hxu, hul, HGX.out, HGU.out, HV'.out.fin, HUV.out, rfl⟩
                            | exact ⟨x, u, v', hvu, _, n2, rfl, rfl, rfl, rfl, rfl, hxu, hul, HGX.out, HGU.out, HV'.out.fin, HHU.out, rfl⟩
                          case measure => show u - x < u - l; omega
                  · cases b2 : (FloatKind.f64.format.order x u == some .lt)
                    · clear hx64
                      by_cases hsm : Fl.rg (Fl.val l + Fl.val u) (-1074) < Fl.inf
                      · obtain ⟨x, xa, hxl, hxu⟩ := Fl.mid_one hw3 (by omega) hsm
                        have hadd := fun t w => run_float_arith (P := Try.prog) w .add t .f64 l u _ (Fl.add_pos' (by omega) (by omega) (by omega))
                        have hquo := fun t w => run_float_arith (P := Try.prog) w .quo t .f64 _ 4611686018427387904 x xa
                        generalize Fl.rg (Fl.val l + Fl.val u) (-1074) = sm at hadd hquo
                        clear xa hsm
                        by_cases hgx : Fl.good fs t p r0 x
                        · have HGX : Hid (Fl.good fs t p r0 x) := hgx
                          clear hgx
                          go_wp2_with (first | (go_at_call 20; refine (isinf_no _ (by omega) _).mono ?_; rintro e w' ⟨rfl, rfl⟩) | (go_at_call 15; refine (HF.out n2 _ (by omega)).mono ?_; rintro e w' ⟨v', rfl, rfl, hv'⟩; have hge' := ge0 hv'.fin.ok; rw [decide_eq_true (hv'.iff.2 HGX.out)] at hge'; have HV' : Hid (Val fs t p r0 x v') := hv'; clear hv'))
                          all_goals
                            go_roundw
                            case rel => first
                              | exact ⟨l, x, vl, v', _, n2, rfl, rfl, rfl, rfl, rfl, hxl, by omega, HNL.out, HGX.out, HLV.out, HV'.out.fin, rfl⟩
                              | exact ⟨l, x, hvl, v', _, n2, rfl, rfl, rfl, rfl, rfl, hxl, by omega, HNL.out, HGX.out, HHL.out, HV'.out.fin, rfl⟩
                            case measure => show x - l < u - l; omega
                        · have HGX : Hid (¬ Fl.good fs t p r0 x) := hgx
                          clear hgx
                          go_wp2_with (first | (go_at_call 20; refine (isinf_no _ (by omega) _).mono ?_; rintro e w' ⟨rfl, rfl⟩) | (go_at_call 15; refine (HF.out n2 _ (by omega)).mono ?_; rintro e w' ⟨v', rfl, rfl, hv'⟩; have hge' := ge0 hv'.fin.ok; rw [decide_eq_false (by have := hv'.lt HGX.out; omega)] at hge'; have HV' : Hid (Val fs t p r0 x v') := hv'; clear hv'))
                          all_goals
                            go_roundw
                            case rel => first
                              | exact ⟨x, u, v', vu, _, n2, rfl, rfl, rfl, rfl, rfl, hxu, hul, HGX.out, HGU.out, HV'.out.fin, HUV.out, rfl⟩
                              | exact ⟨x, u, v', hvu, _, n2, rfl, rfl, rfl, rfl, rfl, hxu, hul, HGX.out, HGU.out, HV'.out.fin, HHU.out, rfl⟩
                            case measure => show u - x < u - l; omega
                      · obtain ⟨xb, xc, x, xa1, xa2, xa3, hxl, hxu⟩ := Fl.mid_two hw3 (by omega) (by have := Fl.rg_le_inf (Fl.val l + Fl.val u) (-1074); have e : Fl.inf = 2047 * 2 ^ 52 := rfl; omega)
                        have hadd := fun t w => run_float_arith (P := Try.prog) w .add t .f64 l u _ (Fl.add_pos' (by omega) (by omega) (by omega))
                        rw [show Fl.rg (Fl.val l + Fl.val u) (-1074) = Fl.inf by have := Fl.rg_le_inf (Fl.val l + Fl.val u) (-1074); have e : Fl.inf = 2047 * 2 ^ 52 := rfl; omega] at hadd
                        have hquo := fun t w => run_float_arith (P := Try.prog) w .quo t .f64 Fl.inf 4611686018427387904 Fl.inf Fl.inf_div_two
                        have hquo1 := fun t w => run_float_arith (P := Try.prog) w .quo t .f64 l 4611686018427387904 xb xa1
                        have hquo2 := fun t w => run_float_arith (P := Try.prog) w .quo t .f64 u 4611686018427387904 xc xa2
                        have hadd2 := fun t w => run_float_arith (P := Try.prog) w .add t .f64 xb xc x xa3
                        clear xa1 xa2 xa3 hsm
                        by_cases hgx : Fl.good fs t p r0 x
                        · have HGX : Hid (Fl.good fs t p r0 x) := hgx
                          clear hgx
                          go_wp2_with (first | (go_at_call 20; refine (isinf_yes _).mono ?_; rintro e w' ⟨rfl, rfl⟩) | (go_at_call 15; refine (HF.out n2 _ (by omega)).mono ?_; rintro e w' ⟨v', rfl, rfl, hv'⟩; have hge' := ge0 hv'.fin.ok; rw [decide_eq_true (hv'.iff.2 HGX.out)] at hge'; have HV' : Hid (Val fs t p r0 x v') := hv'; clear hv'))
                          all_goals
                            go_roundw
                            case rel => first
                              | exact ⟨l, x, vl, v', _, n2, rfl, rfl, rfl, rfl, rfl, hxl, by omega, HNL.out, HGX.out, HLV.out, HV'.out.fin, rfl⟩
                              | exact ⟨l, x, hvl, v', _, n2, rfl, rfl, rfl, rfl, rfl, hxl, by omega, HNL.out, HGX.out, HHL.out, HV'.out.fin, rfl⟩
                            case measure => show x - l < u - l; omega
                        · have HGX : Hid (¬ Fl.good fs t p r0 x) := hgx
                          clear hgx
                          go_wp2_with (first | (go_at_call 20; refine (isinf_yes _).mono ?_; rintro e w' ⟨rfl, rfl⟩) | (go_at_call 15; refine (HF.out n2 _ (by omega)).mono ?_; rintro e w' ⟨v', rfl, rfl, hv'⟩; have hge' := ge0 hv'.fin.ok; rw [decide_eq_false (by have := hv'.lt HGX.out; omega)] at hge'; have HV' : Hid (Val fs t p r0 x v') := hv'; clear hv'))
                          all_goals
                            go_roundw
                            case rel => first
                              | exact ⟨x, u, v', vu, _, n2, rfl, rfl, rfl, rfl, rfl, hxu, hul, HGX.out, HGU.out, HV'.out.fin, HUV.out, rfl⟩
                              | exact ⟨x, u, v', hvu, _, n2, rfl, rfl, rfl, rfl, rfl, hxu, hul, HGX.out, HGU.out, HV'.out.fin, HHU.out, rfl⟩
                            case measure => show u - x < u - l; omega
                    · obtain ⟨hxl, hxu⟩ := between hx64 (by omega) (by omega) b1 b2
                      clear hx64
                      by_cases hgx : Fl.good fs t p r0 x
                      · have HGX : Hid (Fl.good fs t p r0 x) := hgx
                        clear hgx
                        go_wp2_with ((go_at_call 15; refine (HF.out n2 _ (by omega)).mono ?_; rintro e w' ⟨v', rfl, rfl, hv'⟩; have hge' := ge0 hv'.fin.ok; rw [decide_eq_true (hv'.iff.2 HGX.out)] at hge'; have HV' : Hid (Val fs t p r0 x v') := hv'; clear hv'))
                        all_goals
                          go_roundw
                          case rel => first
                            | exact ⟨l, x, vl, v', _, n2, rfl, rfl, rfl, rfl, rfl, hxl, by omega, HNL.out, HGX.out, HLV.out, HV'.out.fin, rfl⟩
                            | exact ⟨l, x, hvl, v', _, n2, rfl, rfl, rfl, rfl, rfl, hxl, by omega, HNL.out, HGX.out, HHL.out, HV'.out.fin, rfl⟩
                          case measure => show x - l < u - l; omega
                      · have HGX : Hid (¬ Fl.good fs t p r0 x) := hgx
                        clear hgx
                        go_wp2_with ((go_at_call 15; refine (HF.out n2 _ (by omega)).mono ?_; rintro e w' ⟨v', rfl, rfl, hv'⟩; have hge' := ge0 hv'.fin.ok; rw [decide_eq_false (by have := hv'.lt HGX.out; omega)] at hge'; have HV' : Hid (Val fs t p r0 x v') := hv'; clear hv'))
                        all_goals
                          go_roundw
                          case rel => first
                            | exact ⟨x, u, v', vu, _, n2, rfl, rfl, rfl, rfl, rfl, hxu, hul, HGX.out, HGU.out, HV'.out.fin, HUV.out, rfl⟩
                            | exact ⟨x, u, v', hvu, _, n2, rfl, rfl, rfl, rfl, rfl, hxu, hul, HGX.out, HGU.out, HV'.out.fin, HHU.out, rfl⟩
                          case measure => show u - x < u - l; omega
                · rw [decide_eq_false (by omega)] at ho
                  clear wa wb tb
                  go_wp2_with fail
                  go_ret
                  exact ⟨u, nd, rfl, rfl, Or.inr (Or.inr ⟨fun h => HNL.out (HM.out 0 l (Nat.zero_le _) (by omega) h), HGL.out, l, hlu, hul, HGU.out, HNL.out, by rw [HMd.out]; omega⟩)⟩
            · rw [decide_eq_true (HU.out.lt hgu)] at hl0
              have HGU : Hid (¬ Fl.good fs t p r0 u) := hgu
              have hne : u ≠ limit := fun h => by subst h; exact hgu HGL.out
              clear hgu
              obtain ⟨y, ya, yb, yc, yd⟩ := Fl.up_step (up := u) (st := s) (by omega) hs1 hs2
              obtain ⟨s', sa, sb, sc, sd, se⟩ := Fl.dbl_step hs1 hs2
              have hadd := fun t w => run_float_arith (P := Try.prog) w .add t .f64 u s y ya
              have hmul := fun t w => run_float_arith (P := Try.prog) w .mul t .f64 s 4611686018427387904 s' sa
              have mn := fun ts t w => min_run (x := limit) (y := y) (by omega) (Nat.le_of_lt hli) (by omega) yb ts t w
              obtain ⟨u', ua, ub, uc, ud⟩ : ∃ u', u' ≤ limit ∧ u ≤ u' ∧ (s = Fl.inf → u' = limit) ∧ (if y < limit then y else limit) = u' :=
                ⟨_, by split <;> omega, by split <;> omega, fun h => by rw [if_neg (by have := yd h; omega)], rfl⟩
              rw [ud] at mn
              have HZ : Hid (s = Fl.inf → u' = limit) := uc
              have HS : Hid (s < Fl.inf → s < s') := sd
              have HE : Hid (s = Fl.inf → s' = Fl.inf) := se
              clear ya yc yd sa sd se uc ud
              go_wp2_with (go_at_call 15; refine (HF.out 0 _ (by omega)).mono ?_; rintro e w' ⟨v', rfl, rfl, hv'⟩)
              go_round
              case rel => exact ⟨u, u', vu, v', s', rfl, rfl, rfl, rfl, rfl, ub, ua, HGU.out, HU.out.fin, by assumption, sc, sb⟩
              case measure => exact mes_drop hne sb hs2 HS.out HE.out HZ.out
      · have hgu : ¬ Fl.good fs t p r0 u := fun h => hlim (HM.out u limit hul (by omega) h)
        have HNG : Hid (¬ Fl.good fs t p r0 limit) := hlim
        rw [decide_eq_true (HU.out.lt hgu)] at hl0
        clear hlim hgu
        go_wp2_with (first | (go_at_call 15; refine (HF.out 0 _ (by omega)).mono ?_; rintro e w' ⟨v', rfl, rfl, hv'⟩; have hl1 := lt0 hv'.fin.ok; rw [decide_eq_true (hv'.lt HNG.out)] at hl1; clear hv') | (go_at_call 16; refine (minf_any _).mono ?_; rintro e w' ⟨rfl, rfl⟩))
        go_ret
        exact ⟨_, 0, rfl, rfl, Or.inr (Or.inl ⟨HNG.out, rfl⟩)⟩

end Go.Proofs.Qxb6615185a
