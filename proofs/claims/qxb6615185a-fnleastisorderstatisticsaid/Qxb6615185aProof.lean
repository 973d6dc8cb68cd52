/-
  'Rows.FnLeastIsOrderStatisticSaid', proved: the frame (after the guide's shell for slices), over the walk of Qxb6615185aLaw.
-/
import Derived.Test.Qxb6615185aLaw
import Derived.OpenShut
import Derived.ShutString
import Derived.ChangeOld
import Derived.Below
import Derived.Deep.Slices
namespace Go.Proofs.Qxb6615185a.fnLeastIsOrderStatistic
open Go.ChangeShapes Go.WideShapes Go.ChangeAt Go.RowKit

theorem own : ownKnob Try.prog.godebug = none := by kernel_rfl
theorem laidOut : laidOutB Try.prog = true := by kernel_rfl
theorem cells23 : Try.prog.cellsOf 23 = 1 := by kernel_rfl

theorem wf64 {b : Nat} (h : (Lit.float .f64 b).wf = true) : b < 2 ^ 64 := by simpa [Lit.wf] using h

theorem trod_flt {H : Type} {enc : TypeId × Value → H} {w : World} {base : Nat} {spare : Nat → Bool} {held : Bool} {fuel : Nat} {cs : List Value} {x : DataW H × List MemPlace}
    (h : DataW.trod enc Try.prog w base spare held fuel 23 cs = some x) : ∃ b, cs = [.float .f64 b] ∧ b < 2 ^ 64 := by
  cases fuel with
  | zero => simp [DataW.trod] at h
  | succ n =>
    unfold DataW.trod at h
    rw [Try.underlying23] at h
    split at h <;> simp_all
    rename_i k k' b heq
    subst heq
    obtain ⟨⟨h1, h2⟩, _⟩ := h
    simpa [Lit.wf] using h2

/-- WHAT THE WALK IS TOLD OF THE SLICE: its elements' words. -/
theorem row_of {H : Type} {enc : TypeId × Value → H} {w : World} {base : Nat} {fuel : Nat} {a : Option Addr} {len cap : Nat} {x : DataW H × List MemPlace}
    (h : DataW.trod enc Try.prog w base (fun _ => true) true fuel 22 [.slice a len cap] = some x) :
    ∃ fs : List Nat, fs.length = len ∧ Reads w a fs ∧ (∀ f ∈ fs, f < 2 ^ 64) ∧ (a = none → fs.length = 0 ∧ cap = 0) ∧ len ≤ 9223372036854775807 := by
  rcases Deep.open_slice1 Try.underlying22 cells23 h with ⟨hcs, _⟩ | ⟨ad, l, c, m, n, V, D, Pl, hcs, _, hl, hm, hmm, _, hx⟩
  · simp at hcs
    obtain ⟨rfl, rfl, rfl⟩ := hcs
    exact ⟨[], rfl, fun i hi => absurd hi (Nat.not_lt_zero _), fun f hf => by simp at hf, fun _ => ⟨rfl, rfl⟩, by omega⟩
  · simp at hcs
    obtain ⟨rfl, rfl, rfl⟩ := hcs
    have hm' : m = cap := by simpa using hmm
    subst hm'
    have hv : ∀ i, i < len → ∃ b, V i = .float .f64 b ∧ b < 2 ^ 64 := fun i hi => by
      obtain ⟨b, h1, h2⟩ := trod_flt (hx i (by omega)).2
      exact ⟨b, by simpa using h1, h2⟩
    have hG : ∀ i, i < len → V i = .float .f64 (fltOf (V i)) ∧ fltOf (V i) < 2 ^ 64 := fun i hi => by
      obtain ⟨b, h1, h2⟩ := hv i hi
      rw [h1]; exact ⟨rfl, h2⟩
    refine ⟨(List.range len).map fun i => fltOf (V i), by simp, ?_, ?_, fun h => by simp at h, by unfold maxLen at hm; omega⟩
    · intro i hi
      have hi' : i < len := by simpa using hi
      obtain ⟨b, off, spot⟩ := ad
      have h0 := (hx 0 (by omega)).1
      have hs : spot = none := by simpa [Addr.add] using World.cell?_spot h0
      subst hs
      refine ⟨b, off, rfl, ?_⟩
      have hc := (hx i (by omega)).1
      have ha : (⟨b, off, none⟩ : Addr).add i = ⟨b, off + i, none⟩ := by
        rcases Nat.eq_zero_or_pos i with h' | h'
        · subst h'; rfl
        · unfold Addr.add; rw [if_neg (by omega)]
      rw [ha, (hG i hi').1] at hc
      rw [hc]
      simp [List.getD_eq_getElem?_getD, hi']
    · intro f hf
      obtain ⟨i, hi, rfl⟩ := List.mem_map.1 hf
      exact (hG i (List.mem_range.1 hi)).2

theorem walk (a : Option Addr) (cap : Nat) (fs : List Nat) (t s p r g : Nat) (w : World) (hrw : Reads w a fs) (hnil : a = none → fs.length = 0 ∧ cap = 0) (hf : ∀ f ∈ fs, f < 2 ^ 64) (hlen : fs.length ≤ 9223372036854775807)
    (ht : t < 2 ^ 64) (hs' : s < 2 ^ 64) (hp' : p < 2 ^ 64) (hr' : r < 2 ^ 64) (hg' : g < 2 ^ 64) :
    Calls Try.prog 4 #[.slice a fs.length cap, .float .f64 t, .float .f64 s, .float .f64 p, .float .f64 r, .float .f64 g] w fun e w' => e = .returned (.bool true) ∧ Below w.heap.size w w' := by
  by_cases hn : fs.length ≤ 65536
  · exact law_short a cap fs t s p r g w hrw hn hnil hf ht hs' hp' hr' hg'
  · exact law_long a fs.length cap t s p r g w (by omega) hlen

set_option maxRecDepth 100000 in
theorem lifted (os : Os) (started : os.Started) (H : Type) (enc : TypeId × Value → H) :
    ReturnsInHanded {} Try.checked os 4 .any (Rows.fnLeastIsOrderStatisticSpec.pre6 enc Try.prog Try.f4 Rows.fnLeastIsOrderStatisticRow.domain false) (Rows.fnLeastIsOrderStatisticSpec.post enc Try.prog Try.f4 false true false false) := by
  refine returnsInHanded_of_change (C := Try.checked) own started (by kernel_rfl) Try.func4
    (ChangeSpec.witness6 (enc := enc) (C := Try.checked) false ⟨#[], #[.slice none 0 0, .float .f64 0, .float .f64 0, .float .f64 0, .float .f64 0, .float .f64 0], []⟩ 8 (by kernel_rfl) (by kernel_rfl) (by kernel_rfl) (by kernel_rfl)) ?_
  intro W base args ds gs before hval0 hW hcnd _
  have hval : ∀ (j : Nat) t v, Try.f4.params[j]? = some t → args[j]? = some v → Value.okWide Try.prog W .any base t v := hval0
  have hW' := hW
  obtain ⟨p, q, hA0, hV, rfl, hfz, hnd⟩ := hW
  have hA : DataW.TrodAll enc Try.prog W 0 (fun _ => true) true Try.f4.params.toList args.toList ds p := hA0
  rw [Try.params4] at hA hval
  obtain ⟨v0, vs0, d0, ds0, p0, q0, hargs, rfl, rfl, h0, r0⟩ := trodAll_cons hA
  obtain ⟨v1, vs1, d1, ds1, p1, q1, rfl, rfl, rfl, h1, r1⟩ := trodAll_cons r0
  obtain ⟨v2, vs2, d2, ds2, p2, q2, rfl, rfl, rfl, h2, r2⟩ := trodAll_cons r1
  obtain ⟨v3, vs3, d3, ds3, p3, q3, rfl, rfl, rfl, h3, r3⟩ := trodAll_cons r2
  obtain ⟨v4, vs4, d4, ds4, p4, q4, rfl, rfl, rfl, h4, r4⟩ := trodAll_cons r3
  obtain ⟨v5, vs5, d5, ds5, p5, q5, rfl, rfl, rfl, h5, r5⟩ := trodAll_cons r4
  obtain ⟨rfl, rfl, rfl⟩ := trodAll_nil r5
  obtain rfl : args = #[v0, v1, v2, v3, v4, v5] := by cases args; simp_all
  obtain ⟨rfl, rfl⟩ := trodVars_none hV
  obtain ⟨a0, len0, cap0, rfl⟩ := okWide_slice Try.underlying22 (hval 0 22 v0 rfl rfl)
  have k0 := h0
  have lt0 : ∀ x ∈ p0, x.block < W.heap.size := by obtain ⟨m, hm⟩ := k0; exact DataW.trod_lt m _ _ _ hm
  obtain ⟨fs, hlen, hrw, hf, hnil, hbig⟩ : ∃ fs : List Nat, fs.length = len0 ∧ Reads W a0 fs ∧ (∀ f ∈ fs, f < 2 ^ 64) ∧ (a0 = none → fs.length = 0 ∧ cap0 = 0) ∧ len0 ≤ 9223372036854775807 := by
    obtain ⟨fuel, hf⟩ := h0
    exact row_of hf
  obtain ⟨b1, rfl, rfl, rfl, w1⟩ := open_float Try.underlying23 (hval 1 23 v1 rfl rfl) h1
  obtain ⟨b2, rfl, rfl, rfl, w2⟩ := open_float Try.underlying23 (hval 2 23 v2 rfl rfl) h2
  obtain ⟨b3, rfl, rfl, rfl, w3⟩ := open_float Try.underlying23 (hval 3 23 v3 rfl rfl) h3
  obtain ⟨b4, rfl, rfl, rfl, w4⟩ := open_float Try.underlying23 (hval 4 23 v4 rfl rfl) h4
  obtain ⟨b5, rfl, rfl, rfl, w5⟩ := open_float Try.underlying23 (hval 5 23 v5 rfl rfl) h5
  clear hA0 hval0
  subst hlen
  refine (walk a0 cap0 fs b1 b2 b3 b4 b5 W hrw hnil hf hbig (wf64 w1) (wf64 w2) (wf64 w3) (wf64 w4) (wf64 w5)).mono fun e W' ⟨he, bel⟩ => ?_
  subst he
  exact ⟨_, rfl, _, _, _, [], _, [], hW', trodAll_mk1 (shut_bool Try.underlying4 _),
    (trodAll_cons_mk (Below.trod laidOut (by kernel_rfl) (of_decide_eq_true (by kernel_rfl)) k0 bel lt0)
      (trodAll_cons_mk (shut_float Try.underlying23 w1) (trodAll_cons_mk (shut_float Try.underlying23 w2) (trodAll_cons_mk (shut_float Try.underlying23 w3) (trodAll_cons_mk (shut_float Try.underlying23 w4) (trodAll_cons_mk (shut_float Try.underlying23 w5) trodAll_mk0)))))),
    rfl, bel.frame _, fun h => by cases h⟩

theorem over : Rows.fnLeastIsOrderStatisticRow.holds Try.pinned (OpenSpec.ofChange Rows.fnLeastIsOrderStatisticSpec) :=
  OpenClaim.holds_of_wide 4 Try.f4 rfl rfl rfl rfl rfl rfl rfl ⟨rfl, rfl, rfl, rfl, rfl⟩ rfl rfl rfl rfl rfl (by kernel_rfl) Try.func4 (by kernel_rfl)
    (of_decide_eq_true (by kernel_rfl)) (by unfold Func.isWrapper; first | (rw [if_pos (by decide +kernel)]; kernel_rfl) | (rw [if_neg (by decide +kernel)]; exact ⟨rfl, rfl⟩))
    (fun os started H enc _ => lifted os started H enc)

/-- THE STATEMENT -/
theorem proved : Rows.FnLeastIsOrderStatisticSaid := over
end Go.Proofs.Qxb6615185a.fnLeastIsOrderStatistic
