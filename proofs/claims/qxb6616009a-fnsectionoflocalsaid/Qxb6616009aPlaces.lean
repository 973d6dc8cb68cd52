/-
  zzPlaces.
-/
import Derived.Test.Qxb6616009aLeaf
import Derived.Laws.MakeOwn
import Derived.Deep.MidRow
namespace Go.Proofs.Qxb6616009a
open Go.RowKit

theorem Try.info43 : (Try.prog.info? 43).map (fun i => (i.zero, i.size, i.bytes)) = some (some (.agg #[.nilIface, .pointer none, .map none, .string ⟨#[]⟩, .pointer none, .int .i64 0]), 6, 64) := by kernel_rfl

theorem info_parts {t : TypeId} {z : Value} {s b : Nat} (h : (Try.prog.info? t).map (fun i => (i.zero, i.size, i.bytes)) = some (some z, s, b)) : ∃ i, Try.prog.info? t = some i ∧ i.zero = some z ∧ i.size = s ∧ i.bytes = b := by
  cases hi : Try.prog.info? t with
  | none => rw [hi] at h; cases h
  | some i => rw [hi] at h; simp at h; exact ⟨i, rfl, h.1, h.2.1, h.2.2⟩

/-- The bools that lie at a. -/
def BReads (w : World) (a : Option Addr) (hs : List Bool) : Prop :=
  ∀ i, i < hs.length → ∃ b off, a = some ⟨b, off, none⟩ ∧ w.cell? ⟨b, off + i, none⟩ = some (.bool (at_ hs i))

theorem BReads.below {w w' : World} {a : Option Addr} {hs : List Bool} (h : BReads w a hs) (hb : Below w.heap.size w w') : BReads w' a hs := fun i hi => by
  obtain ⟨b, off, e, c⟩ := h i hi
  exact ⟨b, off, e, by rw [hb.cell (p := ⟨b, off + i, none⟩) (World.block_lt_of_cell? w _ c)]; exact c⟩

theorem setC_other (b : Nat) {c : Nat} (hc : c ≠ b) : ∀ (vs : List Value) (o : Nat) (w : World), (w.setCells b o vs).heap[c]? = w.heap[c]?
  | [], _, _ => rfl
  | v :: r, o, w => by rw [World.setCells, setC_other b hc r, set_other hc]
theorem setC_below {B b : Nat} {a : World} (hb : B ≤ b) : ∀ (vs : List Value) (o : Nat) (w : World), Below B a w → Below B a (w.setCells b o vs)
  | [], _, _, h => h
  | v :: r, o, w, h => by rw [World.setCells]; exact setC_below hb r _ _ (h.setCell (p := ⟨b, o, none⟩) hb v)

structure PI (w : World) (H n : Nat) (hs : List Bool) (k : Nat) : Prop where
  lt : H < w.heap.size
  th : w.there H 0 (n * 6)
  pl : ∀ i, i < k → ∃ r, w.cell? ⟨H, i * 6 + 1, none⟩ = some (.pointer (some ⟨r, 0, none⟩)) ∧ Rec w.heap (H + 1) r (decide (0 < i) && at_ hs i)

theorem there_at {w : World} {H m o n : Nat} (h : w.there H 0 m) (ho : o + n ≤ m) : w.there H o n := fun j hj => by
  have := h (o + j) (by omega)
  simpa using this

theorem there_below {w w' : World} {H m : Nat} (h : w.there H 0 m) (hb : Below w.heap.size w w') (hH : H < w.heap.size) : w'.there H 0 m := fun j hj => by
  obtain ⟨h1, h2⟩ := h j hj
  refine ⟨by rw [hb.cell (p := ⟨H, 0 + j, none⟩) hH]; exact h1, ?_⟩
  have : w'.frozen? ⟨H, 0 + j, none⟩ = w.frozen? ⟨H, 0 + j, none⟩ := by simp [World.frozen?, hb.block H hH]
  rw [this]; exact h2

theorem PI.step {wr w1 : World} {H n k r : Nat} {hs : List Bool} (h : PI wr H n hs k) (hk : k < n) (hB1 : Below wr.heap.size wr w1) (hR : Rec w1.heap wr.heap.size r (decide (0 < k) && at_ hs k)) :
    PI (w1.setCells H (k * 6) (plcC r).toList) H n hs (k + 1) := by
  have hth := there_below h.th hB1 h.lt
  have hth2 : w1.there H (k * 6) (plcC r).toList.length := there_at hth (by show k * 6 + 6 ≤ n * 6; omega)
  refine ⟨?_, World.there_setCells hth _ _ _, fun i hi => ?_⟩
  · obtain ⟨x, hd, _, _, h1, _, _⟩ := hR
    have h2 : 0 < n * 6 := by omega
    have := (World.there_setCells hth H (k * 6) (plcC r).toList 0 h2).1
    obtain ⟨u, hu⟩ := Option.isSome_iff_exists.1 this
    exact World.block_lt_of_cell? _ _ hu
  · rcases Nat.lt_or_eq_of_le (Nat.le_of_lt_succ hi) with h' | h'
    · obtain ⟨q, c, hq⟩ := h.pl i h'
      refine ⟨q, ?_, ?_⟩
      · rw [World.cell?_setCells_out _ _ _ _ _ (fun _ _ => Or.inl (by show i * 6 + 1 < k * 6; omega)), hB1.cell (p := ⟨H, i * 6 + 1, none⟩) h.lt]; exact c
      · exact (hq.below hB1 (Nat.le_refl _)).block fun c o hc ho => by rw [setC_other H (by omega)]; exact ho
    · subst h'
      refine ⟨r, ?_, ?_⟩
      · exact World.rangeAt_setCells_same w1 H (i * 6) (plcC r).toList hth2 1 _ rfl
      · exact (hR.mono (show H + 1 ≤ wr.heap.size from h.lt)).block fun c o hc ho => by rw [setC_other H (by omega)]; exact ho

theorem plc_size (r : Nat) : (plcC r).size = 6 := rfl
theorem store_plc {w : World} {H o r : Nat} (h : w.there H o 6) : (storeCells ⟨H, o, none⟩ (plcC r).toList).run Try.prog w = .ok () (w.setCells H o (plcC r).toList) := by
  have := run_storeCells_cells (P := Try.prog) H o (plcC r).toList 0 w (fun j hj => by simpa using (h j (by simpa [plcC] using hj)).1) (fun j hj => by simpa using (h j (by simpa [plcC] using hj)).2) (fun v hv => by simp [plcC] at hv; rcases hv with rfl | rfl | rfl | rfl | rfl | rfl <;> rfl)
  exact this

set_option maxHeartbeats 8000000 in
set_option maxRecDepth 100000 in
theorem places_any (a : Option Addr) (cap : Nat) (hs : List Bool) (w : World) (hr : BReads w a hs) (hlen : hs.length ≤ 1048576) :
    Calls Try.prog 8 #[.slice a hs.length cap] w fun e w' => e = .returned (.slice (some ⟨w.heap.size, 0, none⟩) hs.length hs.length) ∧ Places w' 0 w.heap.size hs hs.length ∧ Below w.heap.size w w' := by
  obtain ⟨i0, hi, hz0, hz1, hz2⟩ := info_parts Try.info43
  obtain ⟨Z, hZ, hmk⟩ : ∃ Z : Array Value, Z.size = hs.length * 6 ∧ ∀ w : World, (Instr.makeSlice 25 (.int .i64 hs.length) (.int .i64 hs.length)).run Try.prog w = .ok (.slice (some ⟨w.heap.size, 0, none⟩) hs.length hs.length) (w.alloc (.cells Z 43)) := by
    refine ⟨madeCells (Value.agg #[.nilIface, .pointer none, .map none, .string ⟨#[]⟩, .pointer none, .int .i64 0]).cells (hs.length * 6), size_madeCells _ _, fun w => ?_⟩
    have := run_make (P := Try.prog) w 25 43 i0 _ Try.underlying25 hi hz0 .i64 .i64 hs.length hs.length (by omega) (by omega) (by rw [hz2]; omega) (by omega)
    rw [this, hz1, Int.toNat_natCast]
  clear hi hz0 hz1 hz2
  have hps := plc_size
  go_enter Try.func8, Try.ntmps8
  go_wp2
  go_loopw [4] (fun i wr => ∃ k : Nat, k ≤ hs.length ∧ i = .int .i64 k ∧ PI wr w.heap.size hs.length hs k ∧ Below w.heap.size w wr) (fun i _ => hs.length - (intOf i).toNat)
  case atStart =>
    refine ⟨0, Nat.zero_le _, rfl, ⟨by simp, fun j hj => ?_, fun i hi => by omega⟩, (Below.refl _ _).alloc (Nat.le_refl _) _⟩
    have hb := heap_alloc_new w (.cells Z 43)
    exact ⟨by rw [cell_of hb (v := Z[0 + j]'(by omega)) (Array.getElem?_eq_getElem _)]; rfl, free_of hb⟩
  case round =>
    obtain ⟨k, hk, rfl, hPI, hB⟩ := hrel
    have HB : Hid (Below w.heap.size w wr) := hB
    have HI : Hid (PI wr w.heap.size hs.length hs k) := hPI
    clear hB hPI
    by_cases hlt : k < hs.length
    · obtain ⟨b, off, rfl, c0⟩ := hr k hlt
      have hbl : b < w.heap.size := World.block_lt_of_cell? w _ c0
      rw [← HB.out.cell (p := ⟨b, off + k, none⟩) hbl] at c0
      cases hv : decide (0 < k) && at_ hs k with
      | true =>
        have h0 : 0 < k := by simp at hv; exact hv.1
        have h1 : at_ hs k = true := by simp at hv; exact hv.2
        rw [h1] at c0
        have HV := show Hid _ from hv
        clear hv hr
        go_wp2_with fail
        refine (with_any wr).mono ?_
        rintro e w1 ⟨r, rfl, hR, hB1⟩
        have HI2 : Hid (PI (w1.setCells w.heap.size (k * 6) (plcC r).toList) w.heap.size hs.length hs (k + 1)) := HI.out.step hlt hB1 (by rw [HV.out]; exact hR)
        have HB2 : Hid (Below w.heap.size w (w1.setCells w.heap.size (k * 6) (plcC r).toList)) := setC_below (Nat.le_refl _) _ _ _ (HB.out.trans (hB1.mono HB.out.size))
        have hst := store_plc (r := r) (there_at (o := k * 6) (n := 6) (there_below HI.out.th hB1 HI.out.lt) (by omega))
        generalize w1.setCells w.heap.size (k * 6) (plcC r).toList = W2 at hst HI2 HB2
        clear hR hB1 c0
        go_wp2_with fail
        go_roundw
        case rel => exact ⟨k + 1, by omega, by go_num, HI2.out, HB2.out⟩
        case measure => simp [intOf]; omega
      | false =>
        have HV := show Hid _ from hv
        by_cases h0 : 0 < k
        · have h1 : at_ hs k = false := by simpa [h0] using hv
          rw [h1] at c0
          clear hv hr
          go_wp2_with fail
          refine (without_any wr).mono ?_
          rintro e w1 ⟨r, rfl, hR, hB1⟩
          have HI2 : Hid (PI (w1.setCells w.heap.size (k * 6) (plcC r).toList) w.heap.size hs.length hs (k + 1)) := HI.out.step hlt hB1 (by rw [HV.out]; exact hR)
          have HB2 : Hid (Below w.heap.size w (w1.setCells w.heap.size (k * 6) (plcC r).toList)) := setC_below (Nat.le_refl _) _ _ _ (HB.out.trans (hB1.mono HB.out.size))
          have hst := store_plc (r := r) (there_at (o := k * 6) (n := 6) (there_below HI.out.th hB1 HI.out.lt) (by omega))
          generalize w1.setCells w.heap.size (k * 6) (plcC r).toList = W2 at hst HI2 HB2
          clear hR hB1 c0
          go_wp2_with fail
          go_roundw
          case rel => exact ⟨k + 1, by omega, by go_num, HI2.out, HB2.out⟩
          case measure => simp [intOf]; omega
        · obtain rfl : k = 0 := by omega
          clear hv hr
          go_wp2_with fail
          refine (without_any wr).mono ?_
          rintro e w1 ⟨r, rfl, hR, hB1⟩
          have HI2 : Hid (PI (w1.setCells w.heap.size (0 * 6) (plcC r).toList) w.heap.size hs.length hs (0 + 1)) := HI.out.step hlt hB1 (by rw [HV.out]; exact hR)
          have HB2 : Hid (Below w.heap.size w (w1.setCells w.heap.size (0 * 6) (plcC r).toList)) := setC_below (Nat.le_refl _) _ _ _ (HB.out.trans (hB1.mono HB.out.size))
          have hst := store_plc (r := r) (there_at (o := 0 * 6) (n := 6) (there_below HI.out.th hB1 HI.out.lt) (by omega))
          generalize w1.setCells w.heap.size (0 * 6) (plcC r).toList = W2 at hst HI2 HB2
          clear hR hB1 c0
          rw [Nat.zero_mul] at hst
          go_wp2_with fail
          go_roundw
          case rel => exact ⟨1, by omega, by go_num, HI2.out, HB2.out⟩
          case measure => simp [intOf]; omega
    · obtain rfl : k = hs.length := by omega
      go_wp2_with fail
      go_ret
      exact ⟨rfl, fun i hi => by
        obtain ⟨r, c, h⟩ := HI.out.pl i hi
        exact ⟨r, c, h.mono (Nat.zero_le _)⟩, HB.out⟩

end Go.Proofs.Qxb6616009a
