/-
  letGoBuild.
-/
import Derived.Test.Qxb6615209aState
import Derived.Laws.MakeOwn
import Derived.Deep.RegionHeld3
namespace Go.Proofs.Qxb6615209a
open Go.RowKit

theorem Try.info36 : (Try.prog.info? 36).map (fun i => (i.zero, i.size, i.bytes)) = some (some (.pointer none), 1, 8) := by kernel_rfl
theorem Try.info5 : (Try.prog.info? 5).map (fun i => (i.zero, i.size, i.bytes)) = some (some (.int .u8 0), 1, 1) := by kernel_rfl

theorem made_row (tp : Nat → Nat) (n : Nat) : madeCells (Value.pointer none).cells n = rowL tp n 0 0 := by
  refine row_ext (size_madeCells _ _) fun i hi => ?_
  unfold rowV; rw [if_neg (by omega)]
  simp [madeCells, Value.cells, hi, Nat.mod_one]

theorem bcell {W w1 : World} (hb : Below W.heap.size W w1) : ∀ b o, b < W.heap.size → w1.cell? ⟨b, o, none⟩ = W.cell? ⟨b, o, none⟩ :=
  fun b o h => hb.cell (p := ⟨b, o, none⟩) h

structure BI (h : Array Obj) (H : Nat) (es : List Ent) (tp : Nat → Nat) (k : Nat) : Prop where
  mp : h[H]? = some (.map (mapL es tp 0 k) k)
  ag : h[H + 1]? = some (.cells (rowL tp es.length 0 k) 36 (0, 0))
  tx : h[H + 1 + 1]? = some (.cells (rowL tp es.length 0 k) 36 (0, 0))
  ob : ∀ i, i < k → ∃ ra rl, h[tp i]? = some (.cells (txCells (at_ es i).key (at_ es i).en ra rl (at_ es i).rl.toNat) 77 (0, 0))
  lo : ∀ i, i < k → H + 1 + 1 < tp i
  inc : ∀ i j, i < j → j < k → tp i < tp j

def ext (tp : Nat → Nat) (k b : Nat) : Nat → Nat := fun i => if i = k then b else tp i
theorem ext_at (tp : Nat → Nat) (k b : Nat) : ext tp k b k = b := by simp [ext]
theorem ext_lt {tp : Nat → Nat} {k b i : Nat} (h : i < k) : ext tp k b i = tp i := by unfold ext; rw [if_neg (by omega)]

theorem BI.step {wr w1 w4 : World} {H k b : Nat} {es : List Ent} {tp : Nat → Nat} {ra : Option Addr} {rl : Nat} (h : BI wr.heap H es tp k) (hk : k < es.length)
    (hb1 : Below wr.heap.size wr w1) (hbl : wr.heap.size ≤ b) (hob : w1.heap[b]? = some (.cells (txCells (at_ es k).key (at_ es k).en ra rl (at_ es k).rl.toNat) 77 (0, 0)))
    (hb4 : Below (putB ((w1.setCell ⟨H + 1, k, none⟩ (ptr b)).setCell ⟨H + 1 + 1, k, none⟩ (ptr b)) H (.map ((mapL es tp 0 k).push { key := .string (at_ es k).key, val := ptr b, born := k }) (k + 1))).heap.size
      (putB ((w1.setCell ⟨H + 1, k, none⟩ (ptr b)).setCell ⟨H + 1 + 1, k, none⟩ (ptr b)) H (.map ((mapL es tp 0 k).push { key := .string (at_ es k).key, val := ptr b, born := k }) (k + 1))) w4) :
    BI w4.heap H es (ext tp k b) (k + 1) := by
  have k1 : ∀ c o, wr.heap[c]? = some o → w1.heap[c]? = some o := fun c o hc => by rw [hb1.block c (lt_of hc)]; exact hc
  have hM1 := k1 _ _ h.mp
  have hA1 := k1 _ _ h.ag
  have hX1 := k1 _ _ h.tx
  have hbX := lt_of h.tx
  have hkey : ∀ c o, (putB ((w1.setCell ⟨H + 1, k, none⟩ (ptr b)).setCell ⟨H + 1 + 1, k, none⟩ (ptr b)) H (.map ((mapL es tp 0 k).push { key := .string (at_ es k).key, val := ptr b, born := k }) (k + 1))).heap[c]? = some o → w4.heap[c]? = some o :=
    fun c o hc => by rw [hb4.block c (lt_of hc)]; exact hc
  have hc1 : ∀ i, i < k → tp i = ext tp k b i := fun i hi => (ext_lt hi).symm
  have hps : ptr b = ptr (ext tp k b k) := by rw [ext_at]
  have far : ∀ c o, c ≠ H → c ≠ H + 1 → c ≠ H + 1 + 1 → w1.heap[c]? = some o → w4.heap[c]? = some o := fun c o h0 h1 h2 hc => by
    refine hkey c o ?_
    rw [putB_other h0, set_other h2, set_other h1]; exact hc
  refine ⟨?_, ?_, ?_, fun i hi => ?_, fun i hi => ?_, fun i j hij hj => ?_⟩
  · refine hkey _ _ ?_
    have e : (mapL es tp 0 k).push { key := .string (at_ es k).key, val := ptr b, born := k } = mapL es (ext tp k b) 0 (k + 1) := by
      rw [← mapL_push, ← mapL_congr (es := es) (lo := 0) (m := k) fun i hi => hc1 i (by omega)]
      unfold mapE; rw [ext_at]
    rw [e]
    exact putB_heap (o' := .map (mapL es tp 0 k) k) (by rw [set_other (by omega), set_other (by omega)]; exact hM1)
  · refine hkey _ _ ?_
    rw [putB_other (by omega), set_other (by omega), set_same hA1, hps, row_congr (hi := k) fun i hi => hc1 i hi, row_fill]
  · refine hkey _ _ ?_
    rw [putB_other (by omega), set_same (by rw [set_other (by omega)]; exact hX1), hps, row_congr (hi := k) fun i hi => hc1 i hi, row_fill]
  · rcases Nat.lt_or_eq_of_le (Nat.le_of_lt_succ hi) with h' | h'
    · rw [ext_lt h']
      obtain ⟨ra, rl, h3⟩ := h.ob i h'
      have := h.lo i h'
      exact ⟨ra, rl, far _ _ (by omega) (by omega) (by omega) (k1 _ _ h3)⟩
    · subst h'
      rw [ext_at]
      exact ⟨ra, rl, far _ _ (by omega) (by omega) (by omega) hob⟩
  · rcases Nat.lt_or_eq_of_le (Nat.le_of_lt_succ hi) with h' | h'
    · rw [ext_lt h']; exact h.lo i h'
    · subst h'; rw [ext_at]; omega
  · rcases Nat.lt_or_eq_of_le (Nat.le_of_lt_succ hj) with h' | h'
    · rw [ext_lt h', ext_lt (by omega)]; exact h.inc i j hij h'
    · subst h'
      rw [ext_at, ext_lt hij]
      obtain ⟨ra, rl, h3⟩ := h.ob i hij
      have := lt_of h3
      omega

set_option maxHeartbeats 8000000 in
set_option maxRecDepth 100000 in
theorem build_any (room : Int) (a : Option Addr) (cap : Nat) (es : List Ent) (w : World) (hr : EReads w a es) (hw : WF es) (he : ∀ e ∈ es, -9223372036854775808 ≤ e.en ∧ e.en ≤ 9223372036854775807) :
    Calls Try.prog 9 #[.int .i64 room, .slice a es.length cap] w fun e w' => ∃ T A X tp, e = .returned (.tuple #[ptr T, .slice (some ⟨X, 0, none⟩) es.length es.length]) ∧
      St w'.heap es room T w.heap.size A X tp 0 ∧ Blk w.heap.size es.length T w.heap.size A X tp ∧ Below w.heap.size w w' := by
  have hlen := hw.len
  have hmm := @run_makeMap Try.prog
  obtain ⟨i0, hi, hz0, hz1, hz2⟩ := info_parts Try.info36
  have hmk : ∀ w : World, (Instr.makeSlice 30 (.int .i64 es.length) (.int .i64 es.length)).run Try.prog w = .ok (.slice (some ⟨w.heap.size, 0, none⟩) es.length es.length) (w.alloc (.cells (rowL (fun _ => 0) es.length 0 0) 36)) := by
    intro w
    have := run_make (P := Try.prog) w 30 36 i0 (.pointer none) Try.underlying30 hi hz0 .i64 .i64 es.length es.length (by omega) (by omega) (by rw [hz2]; omega) (by omega)
    rw [this, hz1, Int.toNat_natCast, Nat.mul_one, made_row (fun _ => 0)]
  clear hi hz0 hz1 hz2
  go_enter Try.func9, Try.ntmps9
  go_wp2
  go_loopw [9, 10, 11] (fun s i _ wr => ∃ (k c : Nat) (tp : Nat → Nat), k ≤ es.length ∧ i = .int .i64 k ∧ s = .int .i64 c ∧ c + costFrom es k = costFrom es 0 ∧ BI wr.heap w.heap.size es tp k ∧ Below w.heap.size w wr) (fun _ i _ _ => es.length - (intOf i).toNat)
  case atStart =>
    refine ⟨0, 0, fun _ => 0, Nat.zero_le _, rfl, rfl, by omega, ⟨?_, ?_, ?_, fun i hi => by omega, fun i hi => by omega, fun i j hi hj => by omega⟩, (((Below.refl _ _).alloc (Nat.le_refl _) _).alloc (by simp) _).alloc (by simp; omega) _⟩
    · rw [Below.heap_alloc _ _ _ (by simp; omega), Below.heap_alloc _ _ _ (by simp)]
      simpa [mapL] using heap_alloc_new w (.map #[] 0)
    · rw [Below.heap_alloc _ _ _ (by simp)]
      simpa using heap_alloc_new (w.alloc (.map #[] 0)) (.cells (rowL (fun _ => 0) es.length 0 0) 36)
    · simpa using heap_alloc_new ((w.alloc (.map #[] 0)).alloc (.cells (rowL (fun _ => 0) es.length 0 0) 36)) (.cells (rowL (fun _ => 0) es.length 0 0) 36)
  case round =>
    obtain ⟨k, c, tp, hk, rfl, rfl, hc, hBI, hB⟩ := hrel
    have HC : Hid (c + costFrom es k = costFrom es 0) := hc
    have HB := show Hid _ from hB
    have HI := show Hid _ from hBI
    have hcb : c ≤ 16777216 := by have := hw.cost_le 0; omega
    clear hc hB hBI
    by_cases hlt : k < es.length
    · obtain ⟨b, off, rfl, c0, c1, c2⟩ := hr k hlt
      have hbl : b < w.heap.size := World.block_lt_of_cell? w _ c0
      rw [← HB.out.cell (p := ⟨b, off + k * 3, none⟩) hbl] at c0
      rw [← HB.out.cell (p := ⟨b, off + k * 3 + 1, none⟩) hbl] at c1
      rw [← HB.out.cell (p := ⟨b, off + k * 3 + 2, none⟩) hbl] at c2
      have hm := at_mem hlt
      have h1 := hw.key _ hm
      have h2 := hw.rl _ hm
      have h3 := he _ hm
      obtain ⟨rl, hrl⟩ : ∃ rl : Nat, (at_ es k).rl = rl := ⟨(at_ es k).rl.toNat, by omega⟩
      have hrt : (at_ es k).rl.toNat = rl := by omega
      rw [hrl] at c2 h2
      have hrl2 : rl ≤ 65536 := by omega
      have HRT := show Hid _ from hrt
      have HRL := show Hid _ from hrl
      obtain ⟨i1, hi, hz0, hz1, hz2⟩ := info_parts Try.info5
      have hmk2 : ∀ w : World, (Instr.makeSlice 43 (.int .i64 rl) (.int .i64 rl)).run Try.prog w = .ok (.slice (some ⟨w.heap.size, 0, none⟩) rl rl) (w.alloc (.cells (madeCells (Value.int .u8 0).cells rl) 5)) := by
        intro w
        have := run_make (P := Try.prog) w 43 5 i1 (.int .u8 0) Try.underlying43 hi hz0 .i64 .i64 rl rl (by omega) (by omega) (by rw [hz2]; omega) (by omega)
        rw [this, hz1, Int.toNat_natCast, Nat.mul_one]
      generalize madeCells (Value.int .u8 0).cells rl = Z at hmk2
      clear hi hz0 hz1 hz2 hrt hrl hm
      have kk0 : (0 : Int) ≤ (k : Int) := by omega
      have kk1 : (k : Int) < (es.length : Int) := by omega
      have HDD := show Hid _ from h3
      clear h3 hr
      have hbr1 : b < wr.heap.size := Nat.lt_of_lt_of_le hbl HB.out.size
      have hbr2 : b < wr.heap.size + 1 := by omega
      go_wp2_with fail
      go_region_held3 (fun w' => w'.cell? ⟨b, off + k * 3, none⟩ = some (.string (at_ es k).key) ∧ w'.cell? ⟨b, off + k * 3 + 1, none⟩ = some (.int .i64 (at_ es k).en) ∧ w'.cell? ⟨b, off + k * 3 + 2, none⟩ = some (.int .i64 rl)) (go_keep)
        (first | (go_at_call 16; refine (newTx_any (at_ es k).key (at_ es k).en _ rl rl _ HDD.out.1 HDD.out.2).mono ?_; rintro e w1 ⟨b1, rfl, hb1, hb2, hb3, hb4⟩; have bc := bcell hb4))
      have hbw : Below wr.heap.size wr w1 := ((Below.refl _ _).alloc (Nat.le_refl _) _).drew.trans (hb4.mono (by simp))
      have hb1' : wr.heap.size ≤ b1 := by simp at hb1; omega
      have HBW := show Hid _ from hbw
      have HOB := show Hid _ from hb3
      have hI := HI.out
      have hXlt := lt_of hI.tx
      have hA1 : w1.heap[w.heap.size + 1]? = some (.cells (rowL tp es.length 0 k) 36 (0, 0)) := by rw [hbw.block _ (lt_of hI.ag)]; exact hI.ag
      have hX1 : w1.heap[w.heap.size + 1 + 1]? = some (.cells (rowL tp es.length 0 k) 36 (0, 0)) := by rw [hbw.block _ (lt_of hI.tx)]; exact hI.tx
      have hM1 : w1.heap[w.heap.size]? = some (.map (mapL es tp 0 k) k) := by rw [hbw.block _ (lt_of hI.mp)]; exact hI.mp
      have hnil : rowV tp 0 k k = .pointer none := by unfold rowV; rw [if_neg (by omega)]
      have cA : w1.cell? ⟨w.heap.size + 1, k, none⟩ = some (.pointer none) := by rw [← hnil]; exact cell_of hA1 (rowL_get hlt)
      have fA : w1.frozen? ⟨w.heap.size + 1, k, none⟩ = false := free_of hA1
      have hX2 : (w1.setCell ⟨w.heap.size + 1, k, none⟩ (.pointer (some ⟨b1, 0, none⟩))).heap[w.heap.size + 1 + 1]? = some (.cells (rowL tp es.length 0 k) 36 (0, 0)) := by rw [set_other (by omega)]; exact hX1
      have cX : (w1.setCell ⟨w.heap.size + 1, k, none⟩ (.pointer (some ⟨b1, 0, none⟩))).cell? ⟨w.heap.size + 1 + 1, k, none⟩ = some (.pointer none) := by rw [← hnil]; exact cell_of hX2 (rowL_get hlt)
      have fX : (w1.setCell ⟨w.heap.size + 1, k, none⟩ (.pointer (some ⟨b1, 0, none⟩))).frozen? ⟨w.heap.size + 1 + 1, k, none⟩ = false := free_of hX2
      have hB2 : Below w.heap.size w ((w1.setCell ⟨w.heap.size + 1, k, none⟩ (.pointer (some ⟨b1, 0, none⟩))).setCell ⟨w.heap.size + 1 + 1, k, none⟩ (.pointer (some ⟨b1, 0, none⟩))) :=
        ((HB.out.trans (hbw.mono HB.out.size)).setCell (p := ⟨w.heap.size + 1, k, none⟩) (by show w.heap.size ≤ w.heap.size + 1; omega) _).setCell (p := ⟨w.heap.size + 1 + 1, k, none⟩) (by show w.heap.size ≤ w.heap.size + 1 + 1; omega) _
      have hM2 : ((w1.setCell ⟨w.heap.size + 1, k, none⟩ (.pointer (some ⟨b1, 0, none⟩))).setCell ⟨w.heap.size + 1 + 1, k, none⟩ (.pointer (some ⟨b1, 0, none⟩))).heap[w.heap.size]? = some (.map (mapL es tp 0 k) k) := by
        rw [set_other (by omega), set_other (by omega)]; exact hM1
      have hup := run_store_new (P := Try.prog) (v := .pointer (some ⟨b1, 0, none⟩)) Try.underlying41 Try.underlying9 hM2 (find_new tp hw.dist hlt)
      have hB3 := putB_below (o := .map ((mapL es tp 0 k).push { key := .string (at_ es k).key, val := .pointer (some ⟨b1, 0, none⟩), born := k }) (k + 1)) hB2 (Nat.le_refl _)
      have HST : Hid (∀ w4, Below (putB ((w1.setCell ⟨w.heap.size + 1, k, none⟩ (.pointer (some ⟨b1, 0, none⟩))).setCell ⟨w.heap.size + 1 + 1, k, none⟩ (.pointer (some ⟨b1, 0, none⟩))) w.heap.size (.map ((mapL es tp 0 k).push { key := .string (at_ es k).key, val := .pointer (some ⟨b1, 0, none⟩), born := k }) (k + 1))).heap.size
          (putB ((w1.setCell ⟨w.heap.size + 1, k, none⟩ (.pointer (some ⟨b1, 0, none⟩))).setCell ⟨w.heap.size + 1 + 1, k, none⟩ (.pointer (some ⟨b1, 0, none⟩))) w.heap.size (.map ((mapL es tp 0 k).push { key := .string (at_ es k).key, val := .pointer (some ⟨b1, 0, none⟩), born := k }) (k + 1))) w4 → BI w4.heap w.heap.size es (ext tp k b1) (k + 1)) :=
        fun w4 h4 => BI.step (b := b1) HI.out hlt hbw hb1' (by rw [HRT.out]; exact hb3) h4
      have hc2 : ∀ q, ((w1.setCell ⟨w.heap.size + 1, k, none⟩ (.pointer (some ⟨b1, 0, none⟩))).setCell ⟨w.heap.size + 1 + 1, k, none⟩ (.pointer (some ⟨b1, 0, none⟩))).cell? ⟨b, q, none⟩ = w1.cell? ⟨b, q, none⟩ := fun q => by
        rw [hB2.cell (p := ⟨b, q, none⟩) hbl, (HB.out.trans (hbw.mono HB.out.size)).cell (p := ⟨b, q, none⟩) hbl]
      generalize putB ((w1.setCell ⟨w.heap.size + 1, k, none⟩ (.pointer (some ⟨b1, 0, none⟩))).setCell ⟨w.heap.size + 1 + 1, k, none⟩ (.pointer (some ⟨b1, 0, none⟩))) w.heap.size (.map ((mapL es tp 0 k).push { key := .string (at_ es k).key, val := .pointer (some ⟨b1, 0, none⟩), born := k }) (k + 1)) = W3 at hup hB3 HST
      have HB3 := show Hid _ from hB3
      have hh := hc2 (off + k * 3)
      have e0 : w1.cell? ⟨b, off + k * 3, none⟩ = some (.string (at_ es k).key) := (hbw.cell (p := ⟨b, off + k * 3, none⟩) hbr1).trans c0
      have g0 : W3.cell? ⟨b, off + k * 3, none⟩ = some (.string (at_ es k).key) := by rw [hB3.cell (p := ⟨b, off + k * 3, none⟩) hbl, ← HB.out.cell (p := ⟨b, off + k * 3, none⟩) hbl]; exact c0
      have g1 : W3.cell? ⟨b, off + k * 3 + 1, none⟩ = some (.int .i64 (at_ es k).en) := by rw [hB3.cell (p := ⟨b, off + k * 3 + 1, none⟩) hbl, ← HB.out.cell (p := ⟨b, off + k * 3 + 1, none⟩) hbl]; exact c1
      have g2 : W3.cell? ⟨b, off + k * 3 + 2, none⟩ = some (.int .i64 rl) := by rw [hB3.cell (p := ⟨b, off + k * 3 + 2, none⟩) hbl, ← HB.out.cell (p := ⟨b, off + k * 3 + 2, none⟩) hbl]; exact c2
      rw [e0] at hh
      have HS := show Hid _ from costFrom_step hlt
      clear hc2 hB3 hB2 hM2 hX2 hnil hM1 hX1 hA1 hI hbw hb3 hb4 bc hb1 hb2 hw he c0 c1 c2 hmk2
      go_wp2_with fail
      refine (cost_any (at_ es k).key (at_ es k).en rl _ h1 hrl2).mono ?_
      rintro e w4 ⟨rfl, hb4⟩
      have HI4 := show Hid _ from HST.out _ hb4
      have HB4 := show Hid _ from HB3.out.trans (hb4.mono HB3.out.size)
      clear hb4
      go_wp2_with fail
      go_roundw
      case rel => exact ⟨k + 1, c + (256 + (at_ es k).key.size + rl), _, by omega, by go_num, by go_num, by have := HC.out; have := HS.out; have := HRT.out; unfold Ent.cost at *; omega, HI4.out, HB4.out⟩
      case measure => simp [intOf]; omega
    · obtain rfl : k = es.length := by omega
      have hI := HI.out
      have hce : c = costFrom es 0 := by have := HC.out; rw [costFrom_end (Nat.le_refl _)] at this; omega
      have HCE := show Hid _ from hce
      have HT := show Hid _ from lt_of hI.tx
      clear hI hce hr hw he hmk hmm
      go_wp2_with fail
      refine (newTr_any room c w.heap.size (some ⟨w.heap.size + 1, 0, none⟩) es.length es.length _).mono ?_
      rintro e w' ⟨rfl, hw'⟩
      have HW' := show Hid _ from hw'
      clear hw'
      go_wp2_with fail
      go_ret2
      have hI := HI.out
      have hT := HT.out
      refine ⟨wr.heap.size, w.heap.size + 1, w.heap.size + 1 + 1, tp, rfl, ?_, ?_, ?_⟩
      · rw [HW'.out]
        have old : ∀ b o, wr.heap[b]? = some o → (wr.alloc (.cells (trCells room c w.heap.size (.slice (some ⟨w.heap.size + 1, 0, none⟩) es.length es.length)) 62)).heap[b]? = some o := fun b o h => by rw [Below.heap_alloc _ _ _ (lt_of h)]; exact h
        refine ⟨⟨some ⟨w.heap.size + 1, 0, none⟩, es.length, ?_, fun _ => ⟨rfl, rfl⟩⟩, old _ _ hI.ag, old _ _ hI.tx, fun i hi => ?_, old _ _ hI.mp⟩
        · rw [← HCE.out]; exact heap_alloc_new wr _
        · obtain ⟨ra, rl, h3⟩ := hI.ob i hi
          refine ⟨ra, rl, ?_⟩
          have hk0 : keyAt es 0 i = (at_ es i).key := by unfold keyAt; rw [if_neg (by omega)]
          rw [hk0]; exact old _ _ h3
      · have htl : ∀ i, i < es.length → w.heap.size + 1 + 1 < tp i ∧ tp i < wr.heap.size := fun i hi => by
          obtain ⟨ra, rl, h3⟩ := hI.ob i hi
          exact ⟨hI.lo i hi, lt_of h3⟩
        refine ⟨by omega, by omega, by omega, by omega, fun i hi => by have := htl i hi; omega, by omega, by omega, by omega, by omega, by omega, by omega, fun i hi => by have := htl i hi; omega, fun i hi => by have := htl i hi; omega, fun i hi => by have := htl i hi; omega, fun i hi => by have := htl i hi; omega, fun i j hij hj => by have := hI.inc i j hij hj; omega⟩
      · rw [HW'.out]
        exact HB.out.alloc HB.out.size _

end Go.Proofs.Qxb6615209a
