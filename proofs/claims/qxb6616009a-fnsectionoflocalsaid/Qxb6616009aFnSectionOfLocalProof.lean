/-
  'Rows.FnSectionOfLocalSaid', proved: the frame over the walk of Qxb6616009aLaw.
-/
import Derived.Test.Qxb6616009aLaw
import Derived.OpenShut
import Derived.ShutString
import Derived.ChangeOld
import Derived.Below
import Derived.Deep.Slices
namespace Go.Proofs.Qxb6616009a.fnSectionOfLocal
open Go.ChangeShapes Go.WideShapes Go.ChangeAt Go.RowKit

theorem own : ownKnob Try.prog.godebug = none := by kernel_rfl
theorem laidOut : laidOutB Try.prog = true := by kernel_rfl
theorem cells4 : Try.prog.cellsOf 4 = 1 := by kernel_rfl

theorem wfi {n : Int} (h : (Lit.int .i64 n).wf = true) : -9223372036854775808 ≤ n ∧ n ≤ 9223372036854775807 := by
  simpa [Lit.wf, IntKind.min, IntKind.max, IntKind.signed, IntKind.bits] using h

def boolOf : Value → Bool
  | .bool b => b
  | _ => false

/-- WHAT THE WALK IS TOLD OF A SLICE: its elements. -/
theorem row_of {H : Type} {enc : TypeId × Value → H} {w : World} {base : Nat} {fuel : Nat} {a : Option Addr} {len cap : Nat} {x : DataW H × List MemPlace}
    (h : DataW.trod enc Try.prog w base (fun _ => true) true fuel 22 [.slice a len cap] = some x) :
    ∃ fs : List Bool, fs.length = len ∧ BReads w a fs ∧ len ≤ 9223372036854775807 := by
  rcases Deep.open_slice1 Try.underlying22 cells4 h with ⟨hcs, _⟩ | ⟨ad, l, c, m, n, V, D, Pl, hcs, _, hl, hm, hmm, _, hx⟩
  · simp at hcs
    obtain ⟨rfl, rfl, rfl⟩ := hcs
    exact ⟨[], rfl, fun i hi => absurd hi (Nat.not_lt_zero _), by omega⟩
  · simp at hcs
    obtain ⟨rfl, rfl, rfl⟩ := hcs
    have hm' : m = cap := by simpa using hmm
    subst hm'
    have hG : ∀ i, i < len → V i = .bool (boolOf (V i)) := fun i hi => by
      obtain ⟨b, h1, _⟩ := DataW.trod_bool Try.underlying4 (hx i (by omega)).2
      have h2 : V i = .bool b := by simpa using h1
      rw [h2]; rfl
    refine ⟨(List.range len).map fun i => boolOf (V i), by simp, ?_, by unfold maxLen at hm; omega⟩
    intro i hi
    have hi' : i < len := by simpa using hi
    obtain ⟨b, off, spot⟩ := ad
    have h0 := (hx 0 (by omega)).1
    have hs : spot = none := by simpa [Addr.add] using World.cell?_spot h0
    subst hs
    refine ⟨b, off, rfl, ?_⟩
    have hc := (hx i (by omega)).1
    have ha : (⟨b, off, none⟩ : Addr).add i = ⟨b, off + i, none⟩ := by
      rcases Nat.eq_zero_or_pos i with h' | h'
      · subst h'; rfl
      · unfold Addr.add; rw [if_neg (by omega)]
    rw [ha, hG i hi'] at hc
    rw [hc]
    simp [at_, List.getD_eq_getElem?_getD, hi']

set_option maxRecDepth 100000 in
theorem lifted (os : Os) (started : os.Started) (H : Type) (enc : TypeId × Value → H) :
    ReturnsInHanded {} Try.checked os 3 .any (Rows.fnSectionOfLocalSpec.pre6 enc Try.prog Try.f3 Rows.fnSectionOfLocalRow.domain false) (Rows.fnSectionOfLocalSpec.post enc Try.prog Try.f3 false true false false) := by
  refine returnsInHanded_of_change (C := Try.checked) own started (by kernel_rfl) Try.func3
    (ChangeSpec.witness6 (enc := enc) (C := Try.checked) false ⟨#[], #[.slice none 0 0, .slice none 0 0, .int .i64 0], []⟩ 8 (by kernel_rfl) (by kernel_rfl) (by kernel_rfl) (by kernel_rfl)) ?_
  intro W base args ds gs before hval0 hW hcnd _
  have hval : ∀ (j : Nat) t v, Try.f3.params[j]? = some t → args[j]? = some v → Value.okWide Try.prog W .any base t v := hval0
  have hW' := hW
  obtain ⟨p, q, hA0, hV, rfl, hfz, hnd⟩ := hW
  have hA : DataW.TrodAll enc Try.prog W 0 (fun _ => true) true Try.f3.params.toList args.toList ds p := hA0
  rw [Try.params3] at hA hval
  obtain ⟨v0, vs0, d0, ds0, p0, q0, hargs, rfl, rfl, h0, r0⟩ := trodAll_cons hA
  obtain ⟨v1, vs1, d1, ds1, p1, q1, rfl, rfl, rfl, h1, r1⟩ := trodAll_cons r0
  obtain ⟨v2, vs2, d2, ds2, p2, q2, rfl, rfl, rfl, h2, r2⟩ := trodAll_cons r1
  obtain ⟨rfl, rfl, rfl⟩ := trodAll_nil r2
  obtain rfl : args = #[v0, v1, v2] := by cases args; simp_all
  obtain ⟨rfl, rfl⟩ := trodVars_none hV
  obtain ⟨a0, len0, cap0, rfl⟩ := okWide_slice Try.underlying22 (hval 0 22 v0 rfl rfl)
  obtain ⟨a1, len1, cap1, rfl⟩ := okWide_slice Try.underlying22 (hval 1 22 v1 rfl rfl)
  obtain ⟨n2, rfl, rfl, rfl, w2⟩ := open_int Try.underlying3 (hval 2 3 v2 rfl rfl) h2
  have k0 := h0
  have k1 := h1
  have lt0 : ∀ x ∈ p0, x.block < W.heap.size := by obtain ⟨m, hm⟩ := k0; exact DataW.trod_lt m _ _ _ hm
  have lt1 : ∀ x ∈ p1, x.block < W.heap.size := by obtain ⟨m, hm⟩ := k1; exact DataW.trod_lt m _ _ _ hm
  obtain ⟨hs, hlen0, hr0, hbig0⟩ : ∃ fs : List Bool, fs.length = len0 ∧ BReads W a0 fs ∧ len0 ≤ 9223372036854775807 := by
    obtain ⟨fuel, hf⟩ := h0
    exact row_of hf
  obtain ⟨gs', hlen1, hr1, hbig1⟩ : ∃ fs : List Bool, fs.length = len1 ∧ BReads W a1 fs ∧ len1 ≤ 9223372036854775807 := by
    obtain ⟨fuel, hf⟩ := h1
    exact row_of hf
  clear hA0 hval0
  subst hlen0 hlen1
  refine (law_any a0 a1 cap0 cap1 hs gs' n2 W hr0 hr1 hbig0 hbig1 (wfi w2).1 (wfi w2).2).mono fun e W' ⟨he, bel⟩ => ?_
  subst he
  exact ⟨_, rfl, _, _, _, [], _, [], hW', trodAll_mk1 (shut_bool Try.underlying4 _),
    (trodAll_cons_mk (Below.trod laidOut (by kernel_rfl) (of_decide_eq_true (by kernel_rfl)) k0 bel lt0)
      (trodAll_cons_mk (Below.trod laidOut (by kernel_rfl) (of_decide_eq_true (by kernel_rfl)) k1 bel lt1)
        (trodAll_cons_mk (shut_int Try.underlying3 w2) trodAll_mk0))),
    rfl, bel.frame _, fun h => by cases h⟩

theorem over : Rows.fnSectionOfLocalRow.holds Try.pinned (OpenSpec.ofChange Rows.fnSectionOfLocalSpec) :=
  OpenClaim.holds_of_wide 3 Try.f3 rfl rfl rfl rfl rfl rfl rfl ⟨rfl, rfl, rfl, rfl, rfl⟩ rfl rfl rfl rfl rfl (by kernel_rfl) Try.func3 (by kernel_rfl)
    (of_decide_eq_true (by kernel_rfl)) (by unfold Func.isWrapper; first | (rw [if_pos (by decide +kernel)]; kernel_rfl) | (rw [if_neg (by decide +kernel)]; exact ⟨rfl, rfl⟩))
    (fun os started H enc _ => lifted os started H enc)

/-- THE STATEMENT -/
theorem proved : Rows.FnSectionOfLocalSaid := over
end Go.Proofs.Qxb6616009a.fnSectionOfLocal
