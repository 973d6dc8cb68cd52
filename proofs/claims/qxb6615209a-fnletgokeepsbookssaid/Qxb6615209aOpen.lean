/-
  What the open arguments say of the entries.
-/
import Derived.Test.Qxb6615209aRead
import Derived.OpenShut
import Derived.ShutString
import Derived.ChangeOld
import Derived.Below
import Derived.Deep.Slices
import Derived.Deep.Strs
namespace Go.Proofs.Qxb6615209a
open Go.ChangeShapes Go.WideShapes Go.ChangeAt Go.RowKit

/-- What the entries are in Go's ints. -/
def InI (es : List Ent) : Prop := ∀ e ∈ es, (-9223372036854775808 ≤ e.en ∧ e.en ≤ 9223372036854775807) ∧ (-9223372036854775808 ≤ e.rl ∧ e.rl ≤ 9223372036854775807)

theorem own : ownKnob Try.prog.godebug = none := by kernel_rfl
theorem laidOut : laidOutB Try.prog = true := by kernel_rfl
theorem cells25 : Try.prog.cellsOf 25 = 3 := by kernel_rfl

theorem wfi {n : Int} (h : (Lit.int .i64 n).wf = true) : -9223372036854775808 ≤ n ∧ n ≤ 9223372036854775807 := by
  simpa [Lit.wf, IntKind.min, IntKind.max, IntKind.signed, IntKind.bits] using h

set_option maxRecDepth 100000 in
theorem entry_of {H : Type} {enc : TypeId × Value → H} {w : World} {base : Nat} {spare : Nat → Bool} {held : Bool} {fuel : Nat} {cs : List Value} {x : DataW H × List MemPlace}
    (h : DataW.trod enc Try.prog w base spare held fuel 25 cs = some x) : ∃ e : Ent, cs = [.string e.key, .int .i64 e.en, .int .i64 e.rl] ∧ (-9223372036854775808 ≤ e.en ∧ e.en ≤ 9223372036854775807) ∧ (-9223372036854775808 ≤ e.rl ∧ e.rl ≤ 9223372036854775807) := by
  obtain ⟨y0, y1, y2, n, _, hl, h0, h1, h2⟩ := Deep.trod_struct3 Try.underlying25 h
  rw [cells25] at hl
  match cs, hl with
  | [v0, v1, v2], _ =>
    obtain ⟨s, e0, _, _⟩ := DataW.trod_string Try.underlying9 h0
    obtain ⟨p, e1, _, w1⟩ := DataW.trod_int Try.underlying2 h1
    obtain ⟨q, e2, _, w2⟩ := DataW.trod_int Try.underlying3 h2
    have c9 : Try.prog.cellsOf 9 = 1 := by kernel_rfl
    have c2 : Try.prog.cellsOf 2 = 1 := by kernel_rfl
    have c3 : Try.prog.cellsOf 3 = 1 := by kernel_rfl
    simp [c9] at e0
    simp [c2] at e1
    simp [c3] at e2
    subst e0 e1 e2
    exact ⟨⟨s, p, q⟩, rfl, wfi w1, wfi w2⟩

theorem entries_of {H : Type} {enc : TypeId × Value → H} {w : World} {base : Nat} {fuel : Nat} {a : Option Addr} {len cap : Nat} {x : DataW H × List MemPlace}
    (h : DataW.trod enc Try.prog w base (fun _ => true) true fuel 22 [.slice a len cap] = some x) :
    ∃ es : List Ent, es.length = len ∧ EReads w a es ∧ InI es ∧ len ≤ 9223372036854775807 := by
  rcases Deep.open_slice Try.underlying22 h with ⟨hcs, _⟩ | ⟨ad, l, c, m, n, D, Pl, hcs, _, hl, hm, hmm, _, hx⟩
  · simp at hcs
    obtain ⟨rfl, rfl, rfl⟩ := hcs
    exact ⟨[], rfl, fun i hi => absurd hi (Nat.not_lt_zero _), fun f hf => by simp at hf, by omega⟩
  · simp at hcs
    obtain ⟨rfl, rfl, rfl⟩ := hcs
    have hm' : m = cap := by simpa using hmm
    subst hm'
    have hv : ∀ i, i < len → ∃ e : Ent, w.cells? base (ad.add (i * 3)) 3 = some [.string e.key, .int .i64 e.en, .int .i64 e.rl] ∧ (-9223372036854775808 ≤ e.en ∧ e.en ≤ 9223372036854775807) ∧ (-9223372036854775808 ≤ e.rl ∧ e.rl ≤ 9223372036854775807) := fun i hi => by
      obtain ⟨cs, h1, h2⟩ := hx i (by omega)
      rw [cells25] at h1
      obtain ⟨e, rfl, h3, h4⟩ := entry_of h2
      exact ⟨e, h1, h3, h4⟩
    have : Inhabited Ent := ⟨e0⟩
    obtain ⟨f, hf⟩ := Deep.choose_lt (α := Ent) (p := fun i e => w.cells? base (ad.add (i * 3)) 3 = some [.string e.key, .int .i64 e.en, .int .i64 e.rl] ∧ (-9223372036854775808 ≤ e.en ∧ e.en ≤ 9223372036854775807) ∧ (-9223372036854775808 ≤ e.rl ∧ e.rl ≤ 9223372036854775807)) hv
    have hat : ∀ i, i < len → at_ ((List.range len).map f) i = f i := fun i hi => by unfold at_; simp [List.getD_eq_getElem?_getD, hi]
    refine ⟨(List.range len).map f, by simp, ?_, ?_, by unfold maxLen at hm; omega⟩
    · intro i hi
      have hi' : i < len := by simpa using hi
      obtain ⟨b, off, spot⟩ := ad
      have h0 := (World.cells?_some (hf 0 (by omega)).1).2.2 0 (by omega)
      have hs : spot = none := by simpa [Addr.add] using World.cell?_spot (h0.trans (by rfl))
      subst hs
      have ha : ∀ j, (⟨b, off, none⟩ : Addr).add j = ⟨b, off + j, none⟩ := fun j => by
        rcases Nat.eq_zero_or_pos j with h' | h'
        · subst h'; rfl
        · unfold Addr.add; rw [if_neg (by omega)]
      have ha' : ∀ o j, (⟨b, o, none⟩ : Addr).add j = ⟨b, o + j, none⟩ := fun o j => by
        rcases Nat.eq_zero_or_pos j with h' | h'
        · subst h'; rfl
        · unfold Addr.add; rw [if_neg (by omega)]
      have hc := (World.cells?_some (hf i hi').1).2.2
      rw [ha] at hc
      rw [hat i hi']
      refine ⟨b, off, rfl, ?_, ?_, ?_⟩
      · have := hc 0 (by omega); rw [ha'] at this; simpa using this
      · have := hc 1 (by omega); rw [ha'] at this; simpa using this
      · have := hc 2 (by omega); rw [ha'] at this; simpa using this
    · intro e he
      obtain ⟨i, hi, rfl⟩ := List.mem_map.1 he
      exact (hf i (List.mem_range.1 hi)).2

end Go.Proofs.Qxb6615209a
