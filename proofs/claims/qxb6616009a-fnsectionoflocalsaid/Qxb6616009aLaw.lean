/-
  FnSectionOfLocal, walked out of its callees' contracts.
-/
import Derived.Test.Qxb6616009aPlaces
namespace Go.Proofs.Qxb6616009a
open Go.RowKit

theorem Try.info4 : (Try.prog.info? 4).map (fun i => (i.zero, i.size, i.bytes)) = some (some (.bool false), 1, 1) := by kernel_rfl

/-- Cell j of the row, the first k laid. -/
def rowV (L : List Bool) (k j : Nat) : Value := .bool (decide (j < k) && at_ L j)
def rowB (L : List Bool) (n k : Nat) : Array Value := ((List.range n).map (rowV L k)).toArray
theorem rowB_get {L : List Bool} {n k i : Nat} (h : i < n) : (rowB L n k)[i]? = some (rowV L k i) := by unfold rowB; simp [h]
theorem rowB_size {L : List Bool} {n k : Nat} : (rowB L n k).size = n := by simp [rowB]
theorem row_ext {cs : Array Value} {L : List Bool} {n k : Nat} (hs : cs.size = n) (h : ∀ i, i < n → cs[i]? = some (rowV L k i)) : cs = rowB L n k := by
  apply Array.ext_getElem?
  intro i
  rcases Nat.lt_or_ge i n with hi | hi
  · rw [h i hi, rowB_get hi]
  · rw [Array.getElem?_eq_none (by omega), Array.getElem?_eq_none (by rw [rowB_size]; omega)]
theorem row_fill {L : List Bool} {n k : Nat} : (rowB L n k).setIfInBounds k (.bool (at_ L k)) = rowB L n (k + 1) := by
  refine row_ext (by rw [Array.size_setIfInBounds, rowB_size]) fun i hi => ?_
  rw [Array.getElem?_setIfInBounds]
  by_cases h : k = i
  · subst h
    rw [if_pos rfl, if_pos (by rw [rowB_size]; exact hi)]
    unfold rowV; simp
  · rw [if_neg h, rowB_get hi]
    unfold rowV
    have : decide (i < k) = decide (i < k + 1) := by rw [decide_eq_decide]; omega
    rw [this]
theorem made_row (L : List Bool) (n : Nat) : madeCells (Value.bool false).cells n = rowB L n 0 := by
  refine row_ext (size_madeCells _ _) fun i hi => ?_
  unfold rowV
  simp [madeCells, Value.cells, hi, Nat.mod_one]

theorem at_left {hs gs : List Bool} {k : Nat} (h : k < hs.length) : at_ (hs ++ gs) k = at_ hs k := by
  unfold at_; simp [List.getD_eq_getElem?_getD, List.getElem?_append_left h]
theorem at_right {hs gs : List Bool} {k : Nat} : at_ (hs ++ gs) (hs.length + k) = at_ gs k := by
  unfold at_; rw [List.getD_eq_getElem?_getD, List.getD_eq_getElem?_getD, List.getElem?_append_right (by omega), Nat.add_sub_cancel_left]

theorem reads_row {w : World} {H : Nat} {L : List Bool} (h : w.heap[H]? = some (.cells (rowB L L.length L.length) 4 (0, 0))) : BReads w (some ⟨H, 0, none⟩) L := fun i hi => by
  refine ⟨H, 0, rfl, ?_⟩
  rw [Nat.zero_add]
  have : rowV L L.length i = .bool (at_ L i) := by unfold rowV; simp [hi]
  rw [← this]; exact cell_of h (rowB_get hi)

def TruePost (w : World) (e : Ending) (w' : World) : Prop := e = .returned (.bool true) ∧ Below w.heap.size w w'

set_option maxHeartbeats 8000000 in
set_option maxRecDepth 100000 in
theorem law_any (a c : Option Addr) (cap cap2 : Nat) (hs gs : List Bool) (v : Int) (w : World) (hr : BReads w a hs) (hg : BReads w c gs) (h1 : hs.length ≤ 9223372036854775807) (h2 : gs.length ≤ 9223372036854775807)
    (v0 : -9223372036854775808 ≤ v) (v1 : v ≤ 9223372036854775807) :
    Calls Try.prog 3 #[.slice a hs.length cap, .slice c gs.length cap2, .int .i64 v] w fun e w' => TruePost w e w' := by
  have HR : Hid (BReads w a hs) := hr
  have HG : Hid (BReads w c gs) := hg
  clear hr hg
  go_enter Try.func3, Try.ntmps3
  go_wp2_with fail
  refine (bytes_any a c hs.length cap gs.length cap2 v w h1 h2).mono ?_
  rintro e w' ⟨bb, rfl, hw'⟩; subst w'
  cases bb
  · go_wp2_with fail
    go_ret
    exact ⟨rfl, Below.refl _ _⟩
  by_cases k1 : 65536 < hs.length
  · go_wp2_with fail
    go_ret
    exact ⟨rfl, Below.refl _ _⟩
  by_cases k2 : 65536 < gs.length
  · go_wp2_with fail
    go_ret
    exact ⟨rfl, Below.refl _ _⟩
  by_cases k3 : v < 0
  · go_wp2_with fail
    go_ret
    exact ⟨rfl, Below.refl _ _⟩
  by_cases k4 : (hs.length : Int) ≤ v
  · go_wp2_with fail
    go_ret
    exact ⟨rfl, Below.refl _ _⟩
  obtain ⟨at0, rfl⟩ : ∃ at0 : Nat, v = at0 := ⟨v.toNat, by omega⟩
  have ha : at0 < hs.length := by omega
  have hn : hs.length ≤ 65536 := by omega
  have hm : gs.length ≤ 65536 := by omega
  clear k1 k2 k3 v0 v1 h1 h2
  obtain ⟨L, hL⟩ : ∃ L, hs ++ gs = L := ⟨_, rfl⟩
  have hLl : L.length = hs.length + gs.length := by rw [← hL, List.length_append]
  obtain ⟨i0, hi, hz0, hz1, hz2⟩ := info_parts Try.info4
  have hmk : ∀ w : World, (Instr.makeSlice 22 (.int .i64 ((hs.length : Int) + (gs.length : Int))) (.int .i64 ((hs.length : Int) + (gs.length : Int)))).run Try.prog w = .ok (.slice (some ⟨w.heap.size, 0, none⟩) L.length L.length) (w.alloc (.cells (rowB L L.length 0) 4)) := by
    intro w
    have e : (hs.length : Int) + (gs.length : Int) = (L.length : Int) := by rw [hLl]; omega
    rw [e]
    have := run_make (P := Try.prog) w 22 4 i0 (.bool false) Try.underlying22 hi hz0 .i64 .i64 L.length L.length (by omega) (by omega) (by rw [hz2]; omega) (by omega)
    rw [this, hz1, Int.toNat_natCast, Nat.mul_one, made_row L]
  clear hi hz0 hz1 hz2
  have HL : Hid (hs ++ gs = L) := hL
  have HLl : Hid (L.length = hs.length + gs.length) := hLl
  have l1 : L.length ≤ hs.length + gs.length := by omega
  have l2 : hs.length + gs.length ≤ L.length := by omega
  clear hL hLl
  go_wp2_with fail
  go_loopw [8] (fun i wr => ∃ k : Nat, k ≤ hs.length ∧ i = .int .i64 k ∧ wr.heap[w.heap.size]? = some (.cells (rowB L L.length k) 4 (0, 0)) ∧ Below w.heap.size w wr) (fun i _ => hs.length - (intOf i).toNat)
  case atStart => exact ⟨0, Nat.zero_le _, rfl, heap_alloc_new w _, (Below.refl _ _).alloc (Nat.le_refl _) _⟩
  case round =>
    obtain ⟨k, hk, rfl, hrow, hB⟩ := hrel
    have HB : Hid (Below w.heap.size w wr) := hB
    have HW : Hid (wr.heap[w.heap.size]? = some (.cells (rowB L L.length k) 4 (0, 0))) := hrow
    clear hB hrow
    by_cases hlt : k < hs.length
    · obtain ⟨b, off, rfl, c0⟩ := HR.out k hlt
      have hbl : b < w.heap.size := World.block_lt_of_cell? w _ c0
      rw [← HB.out.cell (p := ⟨b, off + k, none⟩) hbl] at c0
      have cA : wr.cell? ⟨w.heap.size, k, none⟩ = some (rowV L k k) := cell_of HW.out (rowB_get (by omega))
      have fA : wr.frozen? ⟨w.heap.size, k, none⟩ = false := free_of HW.out
      have b1 : (k : Int) < (L.length : Int) := by omega
      have HW2 : Hid ((wr.setCell ⟨w.heap.size, k, none⟩ (.bool (at_ hs k))).heap[w.heap.size]? = some (.cells (rowB L L.length (k + 1)) 4 (0, 0))) := by
        show _ = _
        rw [set_same HW.out, ← at_left (gs := gs) hlt, HL.out, row_fill]
      have HB2 : Hid (Below w.heap.size w (wr.setCell ⟨w.heap.size, k, none⟩ (.bool (at_ hs k)))) := HB.out.setCell (p := ⟨w.heap.size, k, none⟩) (Nat.le_refl _) _
      go_wp2_with fail
      go_roundw
      case rel => exact ⟨k + 1, by omega, by go_num, HW2.out, HB2.out⟩
      case measure => simp [intOf]; omega
    · obtain rfl : k = hs.length := by omega
      go_wp2_with fail
      go_loopw [9] (fun i wr => ∃ k : Nat, k ≤ gs.length ∧ i = .int .i64 k ∧ wr.heap[w.heap.size]? = some (.cells (rowB L L.length (hs.length + k)) 4 (0, 0)) ∧ Below w.heap.size w wr) (fun i _ => gs.length - (intOf i).toNat)
      case atStart => exact ⟨0, Nat.zero_le _, rfl, HW.out, HB.out⟩
      case round =>
        clear HW HB
        obtain ⟨k, hk2, rfl, hrow, hB⟩ := hrel
        have HB : Hid (Below w.heap.size w wr) := hB
        have HW : Hid (wr.heap[w.heap.size]? = some (.cells (rowB L L.length (hs.length + k)) 4 (0, 0))) := hrow
        clear hB hrow
        by_cases hlt2 : k < gs.length
        · obtain ⟨b, off, rfl, c0⟩ := HG.out k hlt2
          have hbl : b < w.heap.size := World.block_lt_of_cell? w _ c0
          rw [← HB.out.cell (p := ⟨b, off + k, none⟩) hbl] at c0
          have cA : wr.cell? ⟨w.heap.size, hs.length + k, none⟩ = some (rowV L (hs.length + k) (hs.length + k)) := cell_of HW.out (rowB_get (by omega))
          have fA : wr.frozen? ⟨w.heap.size, hs.length + k, none⟩ = false := free_of HW.out
          have b0 : (0 : Int) ≤ (hs.length : Int) + (k : Int) := by omega
          have b1 : (hs.length : Int) + (k : Int) < (L.length : Int) := by omega
          have htn : ((hs.length : Int) + (k : Int)).toNat = hs.length + k := by omega
          have hwr : IntKind.i64.wrap ((hs.length : Int) + (k : Int)) = (hs.length : Int) + (k : Int) := by rw [IntKind.wrap_i64]; omega
          have HW2 : Hid ((wr.setCell ⟨w.heap.size, hs.length + k, none⟩ (.bool (at_ gs k))).heap[w.heap.size]? = some (.cells (rowB L L.length (hs.length + (k + 1))) 4 (0, 0))) := by
            show _ = _
            rw [set_same HW.out, ← at_right (hs := hs), HL.out, row_fill]; rfl
          have HB2 : Hid (Below w.heap.size w (wr.setCell ⟨w.heap.size, hs.length + k, none⟩ (.bool (at_ gs k)))) := HB.out.setCell (p := ⟨w.heap.size, hs.length + k, none⟩) (Nat.le_refl _) _
          go_wp2_with fail
          go_roundw
          case rel => exact ⟨k + 1, by omega, by go_num, HW2.out, HB2.out⟩
          case measure => simp [intOf]; omega
        · have hke : hs.length + k = L.length := by have := HLl.out; omega
          have HR2 : Hid (BReads wr a hs) := HR.out.below HB.out
          have HG2 : Hid (BReads wr (some ⟨w.heap.size, 0, none⟩) L) := reads_row (by have := HW.out; rw [hke] at this; exact this)
          clear hke HW HG hmk
          go_wp2_with fail
          refine (places_any a cap hs wr HR2.out (by omega)).mono ?_
          rintro e w1 ⟨rfl, hP1, hB1⟩
          have HP1 : Hid (Places w1 0 wr.heap.size hs hs.length) := hP1
          have HB1 : Hid (Below w.heap.size w w1) := HB.out.trans (hB1.mono HB.out.size)
          have HG3 : Hid (BReads w1 (some ⟨w.heap.size, 0, none⟩) L) := BReads.below HG2.out hB1
          clear hP1 hB1 HG2
          go_wp2_with fail
          refine (zsection_any _ 0 _ _ hs at0 w1 HP1.out ha (by omega)).mono ?_
          rintro e w' ⟨rfl, hw'⟩; subst w'
          go_wp2_with fail
          refine (places_any (some ⟨w.heap.size, 0, none⟩) L.length L w1 HG3.out (by omega)).mono ?_
          rintro e w2 ⟨rfl, hP2, hB2⟩
          have HP2 : Hid (Places w2 0 w1.heap.size L L.length) := hP2
          have HB2 : Hid (Below w.heap.size w w2) := HB1.out.trans (hB2.mono HB1.out.size)
          clear hP2 hB2 HG3
          go_wp2_with fail
          refine (zsection_any _ 0 _ _ L at0 w2 HP2.out (by omega) (by omega)).mono ?_
          rintro e w' ⟨rfl, hw'⟩; subst w'
          have hsl : sec L at0 = sec hs at0 := by rw [← HL.out]; exact sec_local ha
          rw [hsl]
          have HN : Hid (∀ j, sec hs at0 < j → j ≤ at0 → at_ hs j = false) := fun j => sec_none
          have HH : Hid (sec hs at0 ≠ 0 → at_ hs (sec hs at0) = true) := sec_has
          have hle := sec_le hs at0
          have HR4 : Hid (BReads w2 a hs) := BReads.below HR.out HB2.out
          generalize sec hs at0 = r at *
          clear hsl HP1 HP2 HB1 HB HR2 HR HL HLl
          by_cases hr0 : r = 0
          · subst hr0
            go_wp2_with fail
            go_loop [12] (fun i => ∃ j : Nat, 0 + 1 ≤ j ∧ j ≤ at0 + 1 ∧ i = .int .i64 j) (fun i => at0 + 1 - (intOf i).toNat)
            case atStart => exact ⟨0 + 1, Nat.le_refl _, by omega, by go_num⟩
            case round =>
              obtain ⟨j, hj1, hj2, rfl⟩ := hrel
              by_cases hja : j ≤ at0
              · obtain ⟨b, off, rfl, c0⟩ := HR4.out j (by omega)
                rw [HN.out j (by omega) hja] at c0
                go_wp2_with fail
                go_round
                case rel => exact ⟨j + 1, by omega, by omega, by go_num⟩
                case measure => simp [intOf]; omega
              · go_wp2_with fail
                go_ret
                exact ⟨rfl, HB2.out⟩
          · have hr1 := HH.out hr0
            obtain ⟨b, off, rfl, c0⟩ := HR4.out r (by omega)
            rw [hr1] at c0
            go_wp2_with fail
            go_loop [12] (fun i => ∃ j : Nat, r + 1 ≤ j ∧ j ≤ at0 + 1 ∧ i = .int .i64 j) (fun i => at0 + 1 - (intOf i).toNat)
            case atStart => exact ⟨r + 1, Nat.le_refl _, by omega, by go_num⟩
            case round =>
              obtain ⟨j, hj1, hj2, rfl⟩ := hrel
              by_cases hja : j ≤ at0
              · obtain ⟨b', off', eb, c0'⟩ := HR4.out j (by omega)
                obtain ⟨rfl, rfl⟩ : b = b' ∧ off = off' := by simpa using eb
                rw [HN.out j (by omega) hja] at c0'
                clear eb
                go_wp2_with fail
                go_round
                case rel => exact ⟨j + 1, by omega, by omega, by go_num⟩
                case measure => simp [intOf]; omega
              · go_wp2_with fail
                go_ret
                exact ⟨rfl, HB2.out⟩

end Go.Proofs.Qxb6616009a
