/-
  (comingDemand).least, ZZleastStep.
-/
import Derived.Test.Qxb6615185aLeastAt
import Derived.Laws.EntriesVeiled
namespace Go.Proofs.Qxb6615185a
open Go.RowKit

theorem cell_lt {w : World} {a : Addr} {v : Value} (h : w.cell? a = some v) : a.block < w.heap.size := by
  rcases Nat.lt_or_ge a.block w.heap.size with h' | h'
  · exact h'
  · exfalso
    have : w.heap[a.block]? = none := Array.getElem?_eq_none h'
    simp [World.cell?, this] at h

theorem cell_alloc {w : World} {a : Addr} {v : Value} (o : Obj) (h : w.cell? a = some v) : (w.alloc o).cell? a = some v := by
  rw [World.cell?_alloc_lt w o a (cell_lt h)]; exact h

theorem Reads.alloc {w : World} {a : Option Addr} {fs : List Nat} (h : Reads w a fs) (o : Obj) : Reads (w.alloc o) a fs := by
  intro i hi
  obtain ⟨b, off, h1, h2⟩ := h i hi
  exact ⟨b, off, h1, cell_alloc o h2⟩

theorem below_drewN {B : Nat} {a w : World} (h : Below B a w) (n : Nat) : Below B a (w.drewN n) := h.trans ⟨rfl, rfl, rfl, Nat.le_refl _, fun _ _ => rfl⟩

theorem limOf_bounds (scale : Nat) (fs : List Nat) (h : scale < Fl.inf) : scale ≤ limOf scale fs ∧ limOf scale fs < Fl.inf := by
  have e := Fl.inf_lit
  cases fs with
  | nil => exact ⟨Nat.le_refl _, h⟩
  | cons f fs =>
    show scale ≤ lim1 _ _ ∧ lim1 _ _ < _
    unfold lim1 maxf
    split <;> split <;> omega

def gmax : List Nat → Nat
  | [] => 0
  | f :: fs => mxOf f fs
theorem gmax_bounds {fs : List Nat} (h : 0 < fs.length) (hf : ∀ f ∈ fs, 0 < f ∧ f < Fl.inf) : 0 < gmax fs ∧ gmax fs < Fl.inf := by
  cases fs with
  | nil => simp at h
  | cons f fs => exact mxOf_pos hf
theorem limOf_gmax {scale : Nat} {fs : List Nat} (h : 0 < fs.length) : limOf scale fs = lim1 scale (fdiv cmax (gmax fs)) := by
  cases fs with
  | nil => simp at h
  | cons f fs => rfl
theorem limOf_none {scale : Nat} {fs : List Nat} (h : ¬ 0 < fs.length) : limOf scale fs = scale := by
  cases fs with
  | nil => rfl
  | cons f fs => simp at h
theorem max_list (a : Option Addr) (cap : Nat) (fs : List Nat) (w : World) (h : 0 < fs.length) (hr : Reads w a fs) (hn : fs.length ≤ 65536) (hf : ∀ f ∈ fs, 0 < f ∧ f < Fl.inf) :
    Calls Try.prog 17 #[.slice a fs.length cap] w fun e w' => e = .returned (.float .f64 (gmax fs)) ∧ w' = w := by
  cases fs with
  | nil => simp at h
  | cons f fs => exact max_any a cap f fs w hr hn fun g hg => (hf g hg).2
theorem limit_list (a : Option Addr) (cap : Nat) (fs : List Nat) (scale : Nat) (w : World) (hr : Reads w a fs) (hn : fs.length ≤ 65536) (hf : ∀ f ∈ fs, 0 < f ∧ f < Fl.inf) (hs : scale < Fl.inf) :
    Calls Try.prog 10 #[.slice a fs.length cap, .float .f64 scale] w fun e w' => e = .returned (.float .f64 (limOf scale fs)) ∧ w' = w := by
  cases fs with
  | nil => exact limit_nil a cap scale w
  | cons f fs => exact limit_cons a cap f fs scale w hr hn hf hs

/-- What 'least' answers. -/
def TSpec (fs : List Nat) (t p r0 scale : Nat) (r : Nat) : Prop :=
  ((Fl.Q (fs.length + 1) (r0 + fs.length) : Int) < p ∧ r = 9218868437227405312) ∨
  (¬ (Fl.Q (fs.length + 1) (r0 + fs.length) : Int) < p ∧ LSpec fs t p r0 scale (limOf scale fs) r)

def TPost (w : World) (fs : List Nat) (t p r0 scale : Nat) (e : Ending) (w' : World) : Prop :=
  ∃ r, e = .returned (.float .f64 r) ∧ Below w.heap.size w w' ∧ TSpec fs t p r0 scale r

set_option maxHeartbeats 4000000 in
set_option maxRecDepth 100000 in
theorem least_any (fs : List Nat) (t p r r0 : Nat) (a : Option Addr) (cap bt scale guess : Nat) (w : World)
    (hc5 : w.cell? ⟨bt, 0, none⟩ = some (.float .f64 t)) (hrow : Reads w a fs) (hn : fs.length ≤ 65536)
    (ht : Fl.ok t) (hf : ∀ f ∈ fs, 0 < f ∧ f < Fl.inf) (hp : p < Fl.inf) (hr : Fl.ok r) (hr0 : Fl.key r = Fl.ofN r0) (hr1 : r0 ≤ 1)
    (hs0 : Fl.s0 ≤ scale) (hsi : scale < Fl.inf) (hg : Fl.ok guess) :
    Calls Try.prog 14 #[.agg #[.func (.func 13) #[] #[.pointer (some ⟨bt, 0, none⟩)], .slice a fs.length cap], .float .f64 scale, .float .f64 p, .float .f64 r, .float .f64 guess] w
      fun e w' => TPost w fs t p r0 scale e w' := by
  have hlt := Fl.inf_lt
  have hof := floatOfNat fs.length
  have hden := floatOfNat1 fs.length
  obtain ⟨k1, k2⟩ := okey fs.length (by omega)
  obtain ⟨s, sa, sb, sc⟩ := Fl.add_ofN hr hr0 (by omega) k1 k2 (by omega)
  obtain ⟨q, qa, qb, qc⟩ := Fl.div_ofN (d := fs.length + 1) sb sc (by omega) (by omega) (by omega)
  have hadd := fun t w => run_float_arith (P := Try.prog) w .add t .f64 r (Fl.ofN fs.length) s sa
  have hquo := fun t w => run_float_arith (P := Try.prog) w .quo t .f64 s (Fl.ofN (fs.length + 1)) q qa
  have ho := ord_lt qb.ok (Fl.ok_pos (Nat.le_of_lt hp))
  rw [qc, Fl.key_pos (x := p) (by omega)] at ho
  clear sa sb sc qa qb qc k1 k2
  by_cases hq : (Fl.Q (fs.length + 1) (r0 + fs.length) : Int) < p
  · rw [decide_eq_true hq] at ho
    have HQ : Hid ((Fl.Q (fs.length + 1) (r0 + fs.length) : Int) < p) := hq
    clear hq hrow hf hr0 hr
    go_enter Try.func14, Try.ntmps14
    go_wp2_with (go_at_call 16; refine (minf_any _).mono ?_; rintro e w' ⟨rfl, rfl⟩)
    go_ret
    refine ⟨_, rfl, ?_, Or.inl ⟨HQ.out, rfl⟩⟩
    exact (((Below.refl _ _).alloc (Nat.le_refl _) _).alloc (by simp) _).alloc (by simp; omega) _
  · rw [decide_eq_false hq] at ho
    have HQ : Hid (¬ (Fl.Q (fs.length + 1) (r0 + fs.length) : Int) < p) := hq
    clear hq
    obtain ⟨hl1, hl2⟩ := limOf_bounds scale fs hsi
    have HX : Hid (∀ (w0 : World) (hE : Env w0 fs t p r a cap (w.heap.size + 1 + 1) w.heap.size (w.heap.size + 1) bt),
      Calls Try.prog 18 #[.func (.func 15) #[] #[.pointer (some ⟨w.heap.size + 1 + 1, 0, none⟩), .pointer (some ⟨w.heap.size, 0, none⟩), .pointer (some ⟨w.heap.size + 1, 0, none⟩)], .float .f64 scale, .float .f64 (limOf scale fs), .float .f64 guess] w0
      fun e w' => LPost w0 fs t p r0 scale (limOf scale fs) e w') :=
      fun w0 hE => leastAt_any fs t p r r0 a cap _ _ _ bt scale (limOf scale fs) guess w0 hE hn ht (fun f hm => (hf f hm).2) hp hr hr0 hr1 hs0 hl1 hl2 hg
    have hrow3 : Reads (((w.alloc (.cells #[.func (.func 13) #[] #[.pointer (some ⟨bt, 0, none⟩)], .slice a fs.length cap] 33)).alloc (.cells #[.float .f64 p] 23)).alloc (.cells #[.float .f64 r] 23)) a fs := ((hrow.alloc _).alloc _).alloc _
    have hE3 : Env (((w.alloc (.cells #[.func (.func 13) #[] #[.pointer (some ⟨bt, 0, none⟩)], .slice a fs.length cap] 33)).alloc (.cells #[.float .f64 p] 23)).alloc (.cells #[.float .f64 r] 23)) fs t p r a cap (w.heap.size + 1 + 1) w.heap.size (w.heap.size + 1) bt := by
      refine ⟨?_, ?_, ?_, ?_, ?_, hrow3⟩
      · exact World.cell?_alloc_at _ _ _ _ (by simp)
      · exact cell_alloc _ (World.cell?_alloc_at _ _ _ _ (by simp))
      · exact cell_alloc _ (cell_alloc _ (World.cell?_alloc_at _ _ _ _ (by simp)))
      · exact cell_alloc _ (cell_alloc _ (World.cell?_alloc_at _ _ _ _ (by simp)))
      · exact cell_alloc _ (cell_alloc _ (cell_alloc _ hc5))
    have H3 := HX.out _ hE3
    have HR := show Hid _ from H3
    have HW := show Hid _ from hrow3
    have HB : Hid (Below w.heap.size w (((w.alloc (.cells #[.func (.func 13) #[] #[.pointer (some ⟨bt, 0, none⟩)], .slice a fs.length cap] 33)).alloc (.cells #[.float .f64 p] 23)).alloc (.cells #[.float .f64 r] 23))) :=
      (((Below.refl _ _).alloc (Nat.le_refl _) _).alloc (by simp) _).alloc (by simp; omega) _
    clear H3 hE3 hrow3 HX hrow hr hr0 ht hg hc5
    by_cases h0 : 0 < fs.length
    · obtain ⟨g1, g2⟩ := gmax_bounds h0 hf
      obtain ⟨d1, d2⟩ := fdiv_eq (x := cmax) (y := gmax fs) (by decide) g1 g2
      have HM := fun w => show Hid _ from fun hrw => max_list a cap fs w h0 hrw hn hf
      have hdv := fun t w => run_float_arith (P := Try.prog) w .quo t .f64 6850974717710472879 (gmax fs) _ d1
      have mx := fun ts t w => max_run (x := scale) (y := fdiv cmax (gmax fs)) (by omega) (Nat.le_of_lt hsi) (by omega) d2 ts t w
      have e0 : (if maxf < (if scale < fdiv cmax (gmax fs) then fdiv cmax (gmax fs) else scale) then maxf else (if scale < fdiv cmax (gmax fs) then fdiv cmax (gmax fs) else scale)) = limOf scale fs := (limOf_gmax h0).symm
      have e1 : (if scale < fdiv cmax (gmax fs) then fdiv cmax (gmax fs) else scale) ≤ Fl.inf := by split <;> omega
      have mn := fun ts t w => min_run (x := if scale < fdiv cmax (gmax fs) then fdiv cmax (gmax fs) else scale) (y := maxf) (by omega) e1 (by decide) (by decide) ts t w
      rw [e0] at mn
      generalize (if scale < fdiv cmax (gmax fs) then fdiv cmax (gmax fs) else scale) = X at mx mn
      clear e0 e1 d1 d2 g1 g2 hf
      have mn' : ∀ ts t w, (Builtin.min_ ts t #[.float .f64 X, .float .f64 9218868437227405311]).run Try.prog w = .ok (.float .f64 (limOf scale fs)) w := mn
      clear mn
      go_enter Try.func14, Try.ntmps14
      go_wp2_with fail
      refine Calls.mono ((HM _).out HW.out) ?_
      rintro e w' ⟨rfl, rfl⟩
      go_wp2_with fail
      refine Calls.mono HR.out ?_
      rintro e w' ⟨z, n, rfl, rfl, hz⟩
      go_wp2_with fail
      go_ret
      exact ⟨z, rfl, below_drewN HB.out n, Or.inr ⟨by have := HQ.out; omega, hz⟩⟩
    · have e0 := limOf_none (scale := scale) h0
      rw [e0] at HR
      go_enter Try.func14, Try.ntmps14
      go_wp2_with fail
      refine Calls.mono HR.out ?_
      rintro e w' ⟨z, n, rfl, rfl, hz⟩
      go_wp2_with fail
      go_ret
      exact ⟨z, rfl, below_drewN HB.out n, Or.inr ⟨by have := HQ.out; omega, by rw [e0]; exact hz⟩⟩

set_option maxHeartbeats 1000000 in
theorem step_any (fs : List Nat) (t p r r0 : Nat) (a : Option Addr) (cap scale guess : Nat) (w : World)
    (hrow : Reads w a fs) (hn : fs.length ≤ 65536)
    (ht : Fl.ok t) (hf : ∀ f ∈ fs, 0 < f ∧ f < Fl.inf) (hp : p < Fl.inf) (hr : Fl.ok r) (hr0 : Fl.key r = Fl.ofN r0) (hr1 : r0 ≤ 1)
    (hs0 : Fl.s0 ≤ scale) (hsi : scale < Fl.inf) (hg : Fl.ok guess) :
    Calls Try.prog 8 #[.slice a fs.length cap, .float .f64 t, .float .f64 scale, .float .f64 p, .float .f64 r, .float .f64 guess] w
      fun e w' => TPost w fs t p r0 scale e w' := by
  go_enter Try.func8, Try.ntmps8
  have HL := show Hid _ from fun w0 hc hrow => least_any fs t p r r0 a cap w.heap.size scale guess w0 hc hrow hn ht hf hp hr hr0 hr1 hs0 hsi hg
  go_wp2_with fail
  refine Calls.mono (HL.out _ ?_ ?_) ?_
  · exact cell_alloc _ (World.cell?_alloc_at _ _ _ _ rfl)
  · exact (hrow.alloc _).alloc _
  rintro e w' ⟨z, rfl, hb, hz⟩
  go_wp2_with fail
  go_ret
  refine ⟨z, rfl, ?_, hz⟩
  have hB : Below w.heap.size w ((w.alloc (.cells #[.float .f64 t] 23)).alloc (.cells #[.func (.func 13) #[] #[.pointer (some ⟨w.heap.size, 0, none⟩)], .slice a fs.length cap] 33)) :=
    ((Below.refl _ _).alloc (Nat.le_refl _) _).alloc (by simp) _
  exact hB.trans (hb.mono (by simp; omega))

end Go.Proofs.Qxb6615185a
