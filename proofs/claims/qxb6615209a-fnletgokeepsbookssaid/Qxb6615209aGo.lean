/-
  (*Transport).letGo.
-/
import Derived.Test.Qxb6615209aBuild
import Derived.Deep.CutRange
import Derived.Deep.RegionWith
namespace Go.Proofs.Qxb6615209a
open Go.RowKit

theorem tr_set8 (room size : Int) (M : Nat) (ag v : Value) : (trCells room size M ag).setIfInBounds 8 v = trCells room size M v := by simp [trCells]
theorem tr_set9 (room size n : Int) (M : Nat) (ag : Value) : (trCells room size M ag).setIfInBounds 9 (.int .i64 n) = trCells room n M ag := by simp [trCells]
theorem tx_set5 (key k2 : ByteArray) (d : Int) (ra : Option Addr) (rl rc : Nat) : (txCells key d ra rl rc).setIfInBounds 5 (.string k2) = txCells k2 d ra rl rc := by simp [txCells]

theorem St.step {W W3 : World} {es : List Ent} {room : Int} {B T M A X j : Nat} {tp : Nat → Nat} (h : St W.heap es room T M A X tp j) (hB : Blk B es.length T M A X tp) (hj : j < es.length)
    (a' : Option Addr) (c' : Nat) (hag : j + 1 < es.length → a' = some ⟨A, j + 1, none⟩ ∧ c' = es.length - (j + 1))
    (e3 : W3.heap = (putB ((W.setCell ⟨A, j, none⟩ (.pointer none)).setCell ⟨T, 8, none⟩ (.slice a' (es.length - (j + 1)) c')) M (.map (mapL es tp (j + 1) (es.length - (j + 1))) es.length)).heap) :
    St ((W3.setCell ⟨T, 9, none⟩ (.int .i64 (costFrom es (j + 1)))).setCell ⟨tp j, 5, none⟩ (.string ByteArray.empty)).heap es room T M A X tp (j + 1) := by
  obtain ⟨a, c, h1, h2⟩ := h.tr
  have tT := hB.tT j hj
  have tM := hB.tM j hj
  have tA := hB.tA j hj
  have tX := hB.tX j hj
  have w3 : ∀ b, b ≠ M → b ≠ T → b ≠ A → W3.heap[b]? = W.heap[b]? := fun b hM hT hA => by
    rw [e3, putB_other hM, set_other hT, set_other hA]
  have w5 : ∀ b, b ≠ M → b ≠ T → b ≠ A → b ≠ tp j → ((W3.setCell ⟨T, 9, none⟩ (.int .i64 (costFrom es (j + 1)))).setCell ⟨tp j, 5, none⟩ (.string ByteArray.empty)).heap[b]? = W.heap[b]? := fun b hM hT hA ht => by
    rw [set_other ht, set_other hT, w3 b hM hT hA]
  have hT3 : W3.heap[T]? = some (.cells (trCells room (costFrom es j) M (.slice a' (es.length - (j + 1)) c')) 62 (0, 0)) := by
    rw [e3, putB_other hB.TM, set_same (by rw [set_other hB.TA]; exact h1), tr_set8]
  refine ⟨⟨a', c', ?_, hag⟩, ?_, ?_, fun i hi => ?_, ?_⟩
  · rw [set_other (Ne.symm tT), set_same hT3, tr_set9]
  · rw [set_other (Ne.symm tA), set_other (Ne.symm hB.TA), e3, putB_other (Ne.symm hB.MA), set_other (Ne.symm hB.TA), set_same h.ag, row_clear]
  · rw [w5 X (Ne.symm hB.MX) (Ne.symm hB.TX) (Ne.symm hB.AX) (Ne.symm tX)]; exact h.tx
  · obtain ⟨ra, rl, h3⟩ := h.ob i hi
    refine ⟨ra, rl, ?_⟩
    by_cases hij : i = j
    · subst hij
      have hk : keyAt es (i + 1) i = ByteArray.empty := by unfold keyAt; rw [if_pos (by omega)]
      rw [hk, set_same (by rw [set_other tT, w3 _ tM tT tA]; exact h3), tx_set5]
    · have hk : keyAt es (j + 1) i = keyAt es j i := by
        unfold keyAt
        by_cases h' : i < j
        · rw [if_pos (by omega), if_pos h']
        · rw [if_neg (by omega), if_neg h']
      have hne : tp i ≠ tp j := by
        rcases Nat.lt_or_gt_of_ne hij with h' | h'
        · exact hB.tt i j h' hj
        · exact Ne.symm (hB.tt j i h' hi)
      rw [hk, w5 (tp i) (hB.tM i hi) (hB.tT i hi) (hB.tA i hi) hne]; exact h3
  · rw [set_other (Ne.symm tM), set_other (Ne.symm hB.TM), e3]
    exact putB_heap (o' := .map (mapL es tp j (es.length - j)) es.length) (by rw [set_other (Ne.symm hB.TM), set_other hB.MA]; exact h.mp)

/-- How many are left, read off the map. -/
def left (M : Nat) (w : World) : Nat := match w.heap[M]? with | some (.map es _) => es.size | _ => 0
theorem left_of {w : World} {es : List Ent} {room : Int} {T M A X k : Nat} {tp : Nat → Nat} (h : St w.heap es room T M A X tp k) : left M w = es.length - k := by
  unfold left; rw [h.mp]; exact mapL_size _ _ _ _

def GPost (w : World) (B : Nat) (es : List Ent) (room now : Int) (T M A X : Nat) (tp : Nat → Nat) (k : Nat) (e : Ending) (w' : World) : Prop :=
  e = .returned (.tuple #[]) ∧ ∃ k', Runs es room now k k' ∧ St w'.heap es room T M A X tp k' ∧ Below B w w'

set_option maxHeartbeats 8000000 in
set_option maxRecDepth 100000 in
theorem go_any (w : World) (B : Nat) (es : List Ent) (room now : Int) (T M A X : Nat) (tp : Nat → Nat) (k : Nat) (hS : St w.heap es room T M A X tp k) (hBk : Blk B es.length T M A X tp) (hw : WF es) (hk : k ≤ es.length) :
    Calls Try.prog 18 #[.pointer (some ⟨T, 0, none⟩), .agg #[.int .u64 (wallOf now), .int .i64 (extOf now), .pointer none]] w fun e w' => GPost w B es room now T M A X tp k e w' := by
  have hlen := hw.len
  obtain ⟨_, _, hT0, h_⟩ := hS.tr
  clear h_
  have hTl := lt_of hT0
  have HBk := show Hid _ from hBk
  have HNT : Hid (w.heap.size ≠ T ∧ w.heap.size ≠ M ∧ w.heap.size ≠ A ∧ ∀ i, i < es.length → w.heap.size ≠ tp i) := by
    refine ⟨by omega, by have := lt_of hS.mp; omega, by have := lt_of hS.ag; omega, fun i hi => ?_⟩
    obtain ⟨_, _, h3⟩ := hS.ob i hi
    have := lt_of h3; omega
  have HS0 := show Hid _ from hS
  have hBT := hBk.bT
  clear hT0 hS hBk
  go_enter Try.func18, Try.ntmps18
  go_wp2
  go_loopw [4] (fun _ wr => ∃ j : Nat, k ≤ j ∧ j ≤ es.length ∧ (∀ i, k ≤ i → i < j → ¬ Stop es room now i) ∧ St wr.heap es room T M A X tp j ∧
      wr.heap[w.heap.size]? = some (.cells #[.int .u64 (wallOf now), .int .i64 (extOf now), .pointer none] 49 (0, 0)) ∧ Below B w wr) (fun _ wr => left M wr)
  case atStart =>
    refine ⟨k, Nat.le_refl _, hk, fun i h1 h2 => by omega, HS0.out.below (S := w.heap.size) ((Below.refl _ _).alloc (Nat.le_refl _) _) (Nat.le_refl _), heap_alloc_new w _, (Below.refl _ _).alloc (by omega) _⟩
  case round =>
    obtain ⟨j, hj1, hj2, hns, hS, hN, hBel⟩ := hrel
    have HNS := show Hid _ from hns
    have HS := show Hid _ from hS
    have HN := show Hid _ from hN
    have HBel := show Hid _ from hBel
    obtain ⟨a, c, hT, hac⟩ := hS.tr
    have t3 : wr.cell? ⟨T, 3, none⟩ = some (.int .i64 room) := cell_of hT rfl
    have t9 : wr.cell? ⟨T, 9, none⟩ = some (.int .i64 (costFrom es j)) := cell_of hT rfl
    have t8 : wr.cell? ⟨T, 8, none⟩ = some (.slice a (es.length - j) c) := cell_of hT rfl
    have hcl := hw.cost_le j
    clear hns hS hN hBel hT HS0
    by_cases hlt : j < es.length
    · obtain ⟨rfl, rfl⟩ := hac hlt
      obtain ⟨d, hd⟩ : ∃ d, es.length - j = d + 1 := ⟨es.length - j - 1, by omega⟩
      rw [hd] at t8
      have HD := show Hid _ from hd
      clear hd hac
      by_cases hsz : room < (costFrom es j : Int)
      · have HNJ : Hid (¬ Stop es room now j) := fun h => by
          rcases h with h | ⟨h, _⟩
          · omega
          · omega
        go_wp2_with fail
        go_quiet (fail)
        have SW : St (wr.drewN nq).heap es room T M A X tp j := HS.out
        have BW : Below B w (wr.drewN nq) := below_drew HBel.out _
        have NW : (wr.drewN nq).heap[w.heap.size]? = some (.cells #[.int .u64 (wallOf now), .int .i64 (extOf now), .pointer none] 49 (0, 0)) := HN.out
        generalize wr.drewN nq = W at SW BW NW
        clear t3 t9 t8
        have HSW := show Hid _ from SW
        have HBW := show Hid _ from BW
        have HNW := show Hid _ from NW
        obtain ⟨a1, c1, hT, hac⟩ := SW.tr
        obtain ⟨rfl, rfl⟩ := hac hlt
        have hA := SW.ag
        have hrow : rowV tp j es.length j = .pointer (some ⟨tp j, 0, none⟩) := by unfold rowV; rw [if_pos (by omega)]; rfl
        have aj : W.cell? ⟨A, j, none⟩ = some (.pointer (some ⟨tp j, 0, none⟩)) := by rw [← hrow]; exact cell_of hA (rowL_get hlt)
        have fj : W.frozen? ⟨A, j, none⟩ = false := free_of hA
        have t8 : W.cell? ⟨T, 8, none⟩ = some (.slice (some ⟨A, j, none⟩) (d + 1) (d + 1)) := by rw [← HD.out]; exact cell_of hT rfl
        have hT1 : (W.setCell ⟨A, j, none⟩ (.pointer none)).heap[T]? = some (.cells (trCells room (costFrom es j) M (.slice (some ⟨A, j, none⟩) (es.length - j) (es.length - j))) 62 (0, 0)) := by rw [set_other HBk.out.TA]; exact hT
        have t81 : (W.setCell ⟨A, j, none⟩ (.pointer none)).cell? ⟨T, 8, none⟩ = some (.slice (some ⟨A, j, none⟩) (d + 1) (d + 1)) := by rw [← HD.out]; exact cell_of hT1 rfl
        have f81 : (W.setCell ⟨A, j, none⟩ (.pointer none)).frozen? ⟨T, 8, none⟩ = false := free_of hT1
        clear SW BW NW hac hT hA hrow hT1
        cases d with
        | zero =>
          go_upto_region 5 with fail
          have hdd : 0 = es.length - (j + 1) := by have := HD.out; omega
          have hag : j + 1 < es.length → (some ⟨A, j, none⟩ : Option Addr) = some ⟨A, j + 1, none⟩ ∧ 0 = es.length - (j + 1) := fun h => by have := HD.out; omega
          have hS2 := HSW.out
          have hBk := HBk.out
          have hT2 : ((W.setCell ⟨A, j, none⟩ (.pointer none)).setCell ⟨T, 8, none⟩ (.slice (some ⟨A, j, none⟩) (0) (0))).heap[T]? = some (.cells (trCells room (costFrom es j) M (.slice (some ⟨A, j, none⟩) (0) (0))) 62 (0, 0)) := by
            obtain ⟨a1, c1, hT, _⟩ := hS2.tr
            rw [set_same (by rw [set_other hBk.TA]; exact hT), tr_set8]
          have hO2 : ∃ ra rl, ((W.setCell ⟨A, j, none⟩ (.pointer none)).setCell ⟨T, 8, none⟩ (.slice (some ⟨A, j, none⟩) (0) (0))).heap[tp j]? = some (.cells (txCells (at_ es j).key (at_ es j).en ra rl (at_ es j).rl.toNat) 77 (0, 0)) := by
            obtain ⟨ra, rl, h3⟩ := hS2.ob j hlt
            have hk : keyAt es j j = (at_ es j).key := by unfold keyAt; rw [if_neg (by omega)]
            rw [hk] at h3
            exact ⟨ra, rl, by rw [set_other (hBk.tT j hlt), set_other (hBk.tA j hlt)]; exact h3⟩
          have hM2 : ((W.setCell ⟨A, j, none⟩ (.pointer none)).setCell ⟨T, 8, none⟩ (.slice (some ⟨A, j, none⟩) (0) (0))).heap[M]? = some (.map (mapL es tp j (es.length - j)) es.length) := by
            rw [set_other (Ne.symm hBk.TM), set_other hBk.MA]; exact hS2.mp
          have hB2 : Below B w ((W.setCell ⟨A, j, none⟩ (.pointer none)).setCell ⟨T, 8, none⟩ (.slice (some ⟨A, j, none⟩) (0) (0))) :=
            (HBW.out.setCell (p := ⟨A, j, none⟩) hBk.bA _).setCell (p := ⟨T, 8, none⟩) hBk.bT _
          have hST : ∀ W3 : World, W3.heap = (putB ((W.setCell ⟨A, j, none⟩ (.pointer none)).setCell ⟨T, 8, none⟩ (.slice (some ⟨A, j, none⟩) (0) (0))) M (.map (mapL es tp (j + 1) (es.length - (j + 1))) es.length)).heap →
              St ((W3.setCell ⟨T, 9, none⟩ (.int .i64 (costFrom es (j + 1)))).setCell ⟨tp j, 5, none⟩ (.string ByteArray.empty)).heap es room T M A X tp (j + 1) := fun W3 h => by
            rw [hdd] at h
            exact St.step HSW.out HBk.out hlt (some ⟨A, j, none⟩) _ (fun h => ⟨(hag h).1, rfl⟩) h
          have hN2 : w.heap.size ≠ T := by omega
          have hNW2 : ∀ W3 : World, W3.heap = (putB ((W.setCell ⟨A, j, none⟩ (.pointer none)).setCell ⟨T, 8, none⟩ (.slice (some ⟨A, j, none⟩) (0) (0))) M (.map (mapL es tp (j + 1) (es.length - (j + 1))) es.length)).heap →
              ((W3.setCell ⟨T, 9, none⟩ (.int .i64 (costFrom es (j + 1)))).setCell ⟨tp j, 5, none⟩ (.string ByteArray.empty)).heap[w.heap.size]? = some (.cells #[.int .u64 (wallOf now), .int .i64 (extOf now), .pointer none] 49 (0, 0)) := fun W3 h => by
            rw [set_other (HNT.out.2.2.2 j hlt), set_other HNT.out.1, h, putB_other HNT.out.2.1, set_other HNT.out.1, set_other HNT.out.2.2.1]; exact HNW.out
          generalize (W.setCell ⟨A, j, none⟩ (.pointer none)).setCell ⟨T, 8, none⟩ (.slice (some ⟨A, j, none⟩) (0) (0)) = W2 at hT2 hO2 hM2 hB2 hST hNW2
          obtain ⟨ra, rl, hO2⟩ := hO2
          have HST := show Hid _ from hST
          have HNW2 := show Hid _ from hNW2
          have HB2 := show Hid _ from hB2
          have HM2 := show Hid _ from hM2
          have HT2 := show Hid _ from hT2
          have HO2 := show Hid _ from hO2
          have t7 : W2.cell? ⟨T, 7, none⟩ = some (.map (some M)) := cell_of hT2 rfl
          have k5 : W2.cell? ⟨tp j, 5, none⟩ = some (.string (at_ es j).key) := cell_of hO2 rfl
          have hfd := find_in tp hw.dist (lo := j) (m := es.length - j) (i := j) (Nat.le_refl _) (by omega) (by omega)
          have hdl := fun ty => run_del (P := Try.prog) (w := W2.drew) (a2 := 9) (ty := ty) Try.underlying41 Try.underlying9 HM2.out hfd
          have hmo : (mapL es tp j (es.length - j)).eraseIdxIfInBounds (j - j) = mapL es tp (j + 1) (es.length - (j + 1)) := by
            rw [Nat.sub_self, show es.length - j = es.length - (j + 1) + 1 by omega, mapL_erase]
          rw [hmo] at hdl
          clear hmo hfd hT2 hO2 hM2 hB2 hST hNW2 hS2 hBk hag hdd
          go_region
          clear hdl t7 k5
          have hT3 : (putB W2.drew M (.map (mapL es tp (j + 1) (es.length - (j + 1))) es.length)).heap[T]? = _ := (putB_other HBk.out.TM).trans HT2.out
          have hO3 : (putB W2.drew M (.map (mapL es tp (j + 1) (es.length - (j + 1))) es.length)).heap[tp j]? = _ := (putB_other (HBk.out.tM j hlt)).trans HO2.out
          have hB3 : Below B w (putB W2.drew M (.map (mapL es tp (j + 1) (es.length - (j + 1))) es.length)) := putB_below HB2.out.drew HBk.out.bM
          have hST3 := HST.out (putB W2.drew M (.map (mapL es tp (j + 1) (es.length - (j + 1))) es.length)) rfl
          have hN3 := HNW2.out (putB W2.drew M (.map (mapL es tp (j + 1) (es.length - (j + 1))) es.length)) rfl
          generalize putB W2.drew M (.map (mapL es tp (j + 1) (es.length - (j + 1))) es.length) = W3 at hT3 hO3 hB3 hST3 hN3
          have HST3 := show Hid _ from hST3
          have HN3 := show Hid _ from hN3
          have HB3 := show Hid _ from hB3
          have t9 : W3.cell? ⟨T, 9, none⟩ = some (.int .i64 (costFrom es j)) := cell_of hT3 rfl
          have f9 : W3.frozen? ⟨T, 9, none⟩ = false := free_of hT3
          have k5 : W3.cell? ⟨tp j, 5, none⟩ = some (.string (at_ es j).key) := cell_of hO3 rfl
          have k9 : W3.cell? ⟨tp j, 9, none⟩ = some (.slice ra rl (at_ es j).rl.toNat) := cell_of hO3 rfl
          have hk4 : ∀ m v, ((W3.drewN m).setCell ⟨T, 9, none⟩ v).cell? ⟨tp j, 5, none⟩ = some (.string (at_ es j).key) := fun m v => cell_of (by rw [set_other (HBk.out.tT j hlt)]; exact hO3) rfl
          have fk4 : ∀ m v, ((W3.drewN m).setCell ⟨T, 9, none⟩ v).frozen? ⟨tp j, 5, none⟩ = false := fun m v => free_of (by rw [set_other (HBk.out.tT j hlt)]; exact hO3)
          have hm := at_mem hlt
          have h1 := hw.key _ hm
          have h2 : (at_ es j).rl.toNat ≤ 65536 := by have := hw.rl _ hm; omega
          have HCS := show Hid _ from costFrom_step hlt
          have hcl1 := hw.cost_le (j + 1)
          have hcs : (costFrom es j : Int) - ((256 + (at_ es j).key.size + (at_ es j).rl.toNat : Nat) : Int) = (costFrom es (j + 1) : Nat) := by
            have := HCS.out; unfold Ent.cost at this; omega
          have HCS2 := show Hid _ from hcs
          have hsg : 256 + (at_ es j).key.size + (at_ es j).rl.toNat ≤ costFrom es j := by omega
          generalize (at_ es j).rl.toNat = rc at k9 h2 HCS2 hsg
          clear hT3 hO3 hB3 hST3 hN3 hcs hm HT2 HO2 HM2 HB2 HST HNW2
          go_wp2_with fail
          have hwr : IntKind.i64.wrap ((costFrom es j : Int) - (256 + ((at_ es j).key.size : Int) + (rc : Int))) = (costFrom es (j + 1) : Nat) := by
            have := HCS2.out
            rw [IntKind.wrap_i64]; omega
          go_region_with (go_at_call 23; refine (txcost_any (tp j) (at_ es j).key ra rl rc _ h1 h2 (by simpa using k5) (by simpa using k9)).mono ?_; rintro e w' ⟨rfl, n, rfl⟩)
          all_goals
            go_wp2_with fail
            go_roundw
            case rel =>
              refine ⟨j + 1, by omega, by omega, fun i h1 h2 => ?_, HST3.out, HN3.out, (((below_drew HB3.out _).setCell (p := ⟨T, 9, none⟩) HBk.out.bT _).setCell (p := ⟨tp j, 5, none⟩) (HBk.out.bt j hlt) _)⟩
              rcases Nat.lt_or_eq_of_le (Nat.le_of_lt_succ h2) with h | h
              · exact HNS.out i h1 h
              · subst h; exact HNJ.out
            case measure =>
              have m1 := left_of HS.out
              have m2 : left M _ = es.length - (j + 1) := left_of (w := (W3.setCell ⟨T, 9, none⟩ (.int .i64 (costFrom es (j + 1)))).setCell ⟨tp j, 5, none⟩ (.string ByteArray.empty)) HST3.out
              show left M ((W3.setCell ⟨T, 9, none⟩ (.int .i64 (costFrom es (j + 1)))).setCell ⟨tp j, 5, none⟩ (.string ByteArray.empty)) < left M wr
              rw [m1, m2]; omega
        | succ d =>
          go_upto_region 5 with fail
          have hdd : d + 1 = es.length - (j + 1) := by have := HD.out; omega
          have hag : j + 1 < es.length → (some ⟨A, j + 1, none⟩ : Option Addr) = some ⟨A, j + 1, none⟩ ∧ d + 1 = es.length - (j + 1) := fun h => ⟨rfl, by have := HD.out; omega⟩
          have hS2 := HSW.out
          have hBk := HBk.out
          have hT2 : ((W.setCell ⟨A, j, none⟩ (.pointer none)).setCell ⟨T, 8, none⟩ (.slice (some ⟨A, j + 1, none⟩) (d + 1) (d + 1))).heap[T]? = some (.cells (trCells room (costFrom es j) M (.slice (some ⟨A, j + 1, none⟩) (d + 1) (d + 1))) 62 (0, 0)) := by
            obtain ⟨a1, c1, hT, _⟩ := hS2.tr
            rw [set_same (by rw [set_other hBk.TA]; exact hT), tr_set8]
          have hO2 : ∃ ra rl, ((W.setCell ⟨A, j, none⟩ (.pointer none)).setCell ⟨T, 8, none⟩ (.slice (some ⟨A, j + 1, none⟩) (d + 1) (d + 1))).heap[tp j]? = some (.cells (txCells (at_ es j).key (at_ es j).en ra rl (at_ es j).rl.toNat) 77 (0, 0)) := by
            obtain ⟨ra, rl, h3⟩ := hS2.ob j hlt
            have hk : keyAt es j j = (at_ es j).key := by unfold keyAt; rw [if_neg (by omega)]
            rw [hk] at h3
            exact ⟨ra, rl, by rw [set_other (hBk.tT j hlt), set_other (hBk.tA j hlt)]; exact h3⟩
          have hM2 : ((W.setCell ⟨A, j, none⟩ (.pointer none)).setCell ⟨T, 8, none⟩ (.slice (some ⟨A, j + 1, none⟩) (d + 1) (d + 1))).heap[M]? = some (.map (mapL es tp j (es.length - j)) es.length) := by
            rw [set_other (Ne.symm hBk.TM), set_other hBk.MA]; exact hS2.mp
          have hB2 : Below B w ((W.setCell ⟨A, j, none⟩ (.pointer none)).setCell ⟨T, 8, none⟩ (.slice (some ⟨A, j + 1, none⟩) (d + 1) (d + 1))) :=
            (HBW.out.setCell (p := ⟨A, j, none⟩) hBk.bA _).setCell (p := ⟨T, 8, none⟩) hBk.bT _
          have hST : ∀ W3 : World, W3.heap = (putB ((W.setCell ⟨A, j, none⟩ (.pointer none)).setCell ⟨T, 8, none⟩ (.slice (some ⟨A, j + 1, none⟩) (d + 1) (d + 1))) M (.map (mapL es tp (j + 1) (es.length - (j + 1))) es.length)).heap →
              St ((W3.setCell ⟨T, 9, none⟩ (.int .i64 (costFrom es (j + 1)))).setCell ⟨tp j, 5, none⟩ (.string ByteArray.empty)).heap es room T M A X tp (j + 1) := fun W3 h => by
            rw [hdd] at h
            exact St.step HSW.out HBk.out hlt (some ⟨A, j + 1, none⟩) _ (fun h => ⟨(hag h).1, rfl⟩) h
          have hN2 : w.heap.size ≠ T := by omega
          have hNW2 : ∀ W3 : World, W3.heap = (putB ((W.setCell ⟨A, j, none⟩ (.pointer none)).setCell ⟨T, 8, none⟩ (.slice (some ⟨A, j + 1, none⟩) (d + 1) (d + 1))) M (.map (mapL es tp (j + 1) (es.length - (j + 1))) es.length)).heap →
              ((W3.setCell ⟨T, 9, none⟩ (.int .i64 (costFrom es (j + 1)))).setCell ⟨tp j, 5, none⟩ (.string ByteArray.empty)).heap[w.heap.size]? = some (.cells #[.int .u64 (wallOf now), .int .i64 (extOf now), .pointer none] 49 (0, 0)) := fun W3 h => by
            rw [set_other (HNT.out.2.2.2 j hlt), set_other HNT.out.1, h, putB_other HNT.out.2.1, set_other HNT.out.1, set_other HNT.out.2.2.1]; exact HNW.out
          generalize (W.setCell ⟨A, j, none⟩ (.pointer none)).setCell ⟨T, 8, none⟩ (.slice (some ⟨A, j + 1, none⟩) (d + 1) (d + 1)) = W2 at hT2 hO2 hM2 hB2 hST hNW2
          obtain ⟨ra, rl, hO2⟩ := hO2
          have HST := show Hid _ from hST
          have HNW2 := show Hid _ from hNW2
          have HB2 := show Hid _ from hB2
          have HM2 := show Hid _ from hM2
          have HT2 := show Hid _ from hT2
          have HO2 := show Hid _ from hO2
          have t7 : W2.cell? ⟨T, 7, none⟩ = some (.map (some M)) := cell_of hT2 rfl
          have k5 : W2.cell? ⟨tp j, 5, none⟩ = some (.string (at_ es j).key) := cell_of hO2 rfl
          have hfd := find_in tp hw.dist (lo := j) (m := es.length - j) (i := j) (Nat.le_refl _) (by omega) (by omega)
          have hdl := fun ty => run_del (P := Try.prog) (w := W2.drew) (a2 := 9) (ty := ty) Try.underlying41 Try.underlying9 HM2.out hfd
          have hmo : (mapL es tp j (es.length - j)).eraseIdxIfInBounds (j - j) = mapL es tp (j + 1) (es.length - (j + 1)) := by
            rw [Nat.sub_self, show es.length - j = es.length - (j + 1) + 1 by omega, mapL_erase]
          rw [hmo] at hdl
          clear hmo hfd hT2 hO2 hM2 hB2 hST hNW2 hS2 hBk hag hdd
          go_region
          clear hdl t7 k5
          have hT3 : (putB W2.drew M (.map (mapL es tp (j + 1) (es.length - (j + 1))) es.length)).heap[T]? = _ := (putB_other HBk.out.TM).trans HT2.out
          have hO3 : (putB W2.drew M (.map (mapL es tp (j + 1) (es.length - (j + 1))) es.length)).heap[tp j]? = _ := (putB_other (HBk.out.tM j hlt)).trans HO2.out
          have hB3 : Below B w (putB W2.drew M (.map (mapL es tp (j + 1) (es.length - (j + 1))) es.length)) := putB_below HB2.out.drew HBk.out.bM
          have hST3 := HST.out (putB W2.drew M (.map (mapL es tp (j + 1) (es.length - (j + 1))) es.length)) rfl
          have hN3 := HNW2.out (putB W2.drew M (.map (mapL es tp (j + 1) (es.length - (j + 1))) es.length)) rfl
          generalize putB W2.drew M (.map (mapL es tp (j + 1) (es.length - (j + 1))) es.length) = W3 at hT3 hO3 hB3 hST3 hN3
          have HST3 := show Hid _ from hST3
          have HN3 := show Hid _ from hN3
          have HB3 := show Hid _ from hB3
          have t9 : W3.cell? ⟨T, 9, none⟩ = some (.int .i64 (costFrom es j)) := cell_of hT3 rfl
          have f9 : W3.frozen? ⟨T, 9, none⟩ = false := free_of hT3
          have k5 : W3.cell? ⟨tp j, 5, none⟩ = some (.string (at_ es j).key) := cell_of hO3 rfl
          have k9 : W3.cell? ⟨tp j, 9, none⟩ = some (.slice ra rl (at_ es j).rl.toNat) := cell_of hO3 rfl
          have hk4 : ∀ m v, ((W3.drewN m).setCell ⟨T, 9, none⟩ v).cell? ⟨tp j, 5, none⟩ = some (.string (at_ es j).key) := fun m v => cell_of (by rw [set_other (HBk.out.tT j hlt)]; exact hO3) rfl
          have fk4 : ∀ m v, ((W3.drewN m).setCell ⟨T, 9, none⟩ v).frozen? ⟨tp j, 5, none⟩ = false := fun m v => free_of (by rw [set_other (HBk.out.tT j hlt)]; exact hO3)
          have hm := at_mem hlt
          have h1 := hw.key _ hm
          have h2 : (at_ es j).rl.toNat ≤ 65536 := by have := hw.rl _ hm; omega
          have HCS := show Hid _ from costFrom_step hlt
          have hcl1 := hw.cost_le (j + 1)
          have hcs : (costFrom es j : Int) - ((256 + (at_ es j).key.size + (at_ es j).rl.toNat : Nat) : Int) = (costFrom es (j + 1) : Nat) := by
            have := HCS.out; unfold Ent.cost at this; omega
          have HCS2 := show Hid _ from hcs
          have hsg : 256 + (at_ es j).key.size + (at_ es j).rl.toNat ≤ costFrom es j := by omega
          generalize (at_ es j).rl.toNat = rc at k9 h2 HCS2 hsg
          clear hT3 hO3 hB3 hST3 hN3 hcs hm HT2 HO2 HM2 HB2 HST HNW2
          go_wp2_with fail
          have hwr : IntKind.i64.wrap ((costFrom es j : Int) - (256 + ((at_ es j).key.size : Int) + (rc : Int))) = (costFrom es (j + 1) : Nat) := by
            have := HCS2.out
            rw [IntKind.wrap_i64]; omega
          go_region_with (go_at_call 23; refine (txcost_any (tp j) (at_ es j).key ra rl rc _ h1 h2 (by simpa using k5) (by simpa using k9)).mono ?_; rintro e w' ⟨rfl, n, rfl⟩)
          all_goals
            go_wp2_with fail
            go_roundw
            case rel =>
              refine ⟨j + 1, by omega, by omega, fun i h1 h2 => ?_, HST3.out, HN3.out, (((below_drew HB3.out _).setCell (p := ⟨T, 9, none⟩) HBk.out.bT _).setCell (p := ⟨tp j, 5, none⟩) (HBk.out.bt j hlt) _)⟩
              rcases Nat.lt_or_eq_of_le (Nat.le_of_lt_succ h2) with h | h
              · exact HNS.out i h1 h
              · subst h; exact HNJ.out
            case measure =>
              have m1 := left_of HS.out
              have m2 : left M _ = es.length - (j + 1) := left_of (w := (W3.setCell ⟨T, 9, none⟩ (.int .i64 (costFrom es (j + 1)))).setCell ⟨tp j, 5, none⟩ (.string ByteArray.empty)) HST3.out
              show left M ((W3.setCell ⟨T, 9, none⟩ (.int .i64 (costFrom es (j + 1)))).setCell ⟨tp j, 5, none⟩ (.string ByteArray.empty)) < left M wr
              rw [m1, m2]; omega
      · have hS := HS.out
        have hTr : T < wr.heap.size := World.block_lt_of_cell? wr _ t8
        have hNr : w.heap.size < wr.heap.size := lt_of HN.out
        have hAr : A < wr.heap.size := lt_of hS.ag
        obtain ⟨ra0, rl0, hO⟩ := hS.ob j hlt
        have hOr : tp j < wr.heap.size := lt_of hO
        have n0 : wr.cell? ⟨w.heap.size, 0, none⟩ = some (.int .u64 (wallOf now)) := cell_of HN.out rfl
        have n1 : wr.cell? ⟨w.heap.size, 1, none⟩ = some (.int .i64 (extOf now)) := cell_of HN.out rfl
        have n2 : wr.cell? ⟨w.heap.size, 2, none⟩ = some (.pointer none) := cell_of HN.out rfl
        have o6 : wr.cell? ⟨tp j, 6, none⟩ = some (.int .u64 (wallOf (at_ es j).en)) := cell_of hO rfl
        have o7 : wr.cell? ⟨tp j, 7, none⟩ = some (.int .i64 (extOf (at_ es j).en)) := cell_of hO rfl
        have o8 : wr.cell? ⟨tp j, 8, none⟩ = some (.pointer none) := cell_of hO rfl
        have hrow0 : rowV tp j es.length j = .pointer (some ⟨tp j, 0, none⟩) := by unfold rowV; rw [if_pos (by omega)]; rfl
        have aj0 : wr.cell? ⟨A, j, none⟩ = some (.pointer (some ⟨tp j, 0, none⟩)) := by rw [← hrow0]; exact cell_of hS.ag (rowL_get hlt)
        clear hS hO hrow0
        have kk0 : (0 : Int) < (d : Int) + 1 := by omega
        have hdc : decide (room < (costFrom es j : Int)) = false := decide_eq_false hsz
        by_cases hen : (at_ es j).en < now
        · have HNJ : Hid (¬ Stop es room now j) := fun h => by
            rcases h with h | ⟨_, h⟩
            · omega
            · omega
          go_wp2_with fail
          go_region_held3 (fun w' => w'.cell? ⟨T, 8, none⟩ = some (.slice (some ⟨A, j, none⟩) (d + 1) (d + 1)) ∧ w'.cell? ⟨T, 9, none⟩ = some (.int .i64 (costFrom es j)) ∧ w'.cell? ⟨T, 3, none⟩ = some (.int .i64 room) ∧
              w'.cell? ⟨w.heap.size, 0, none⟩ = some (.int .u64 (wallOf now)) ∧ w'.cell? ⟨w.heap.size, 1, none⟩ = some (.int .i64 (extOf now)) ∧ w'.cell? ⟨w.heap.size, 2, none⟩ = some (.pointer none) ∧
              w'.cell? ⟨tp j, 6, none⟩ = some (.int .u64 (wallOf (at_ es j).en)) ∧ w'.cell? ⟨tp j, 7, none⟩ = some (.int .i64 (extOf (at_ es j).en)) ∧ w'.cell? ⟨tp j, 8, none⟩ = some (.pointer none) ∧
              w'.cell? ⟨A, j, none⟩ = some (.pointer (some ⟨tp j, 0, none⟩))) (first | go_keep | (exact ⟨(bc _ _ hTr).trans t8, (bc _ _ hTr).trans t9, (bc _ _ hTr).trans t3, (bc _ _ hNr).trans n0, (bc _ _ hNr).trans n1, (bc _ _ hNr).trans n2, (bc _ _ hOr).trans o6, (bc _ _ hOr).trans o7, (bc _ _ hOr).trans o8, (bc _ _ hAr).trans aj0⟩))
            (first | (go_at_call 22; refine (after_any now (at_ es j).en _).mono ?_; rintro e W ⟨rfl, hb1⟩; have bc := bcell hb1))
          have SW : St W.heap es room T M A X tp j := HS.out.below (S := wr.heap.size) ((Below.refl _ _).drew.trans hb1) (Nat.le_refl _)
          have BW : Below B w W := HBel.out.drew.trans (hb1.mono (Nat.le_trans (by omega) (Nat.le_of_lt hNr)))
          have NW : W.heap[w.heap.size]? = some (.cells #[.int .u64 (wallOf now), .int .i64 (extOf now), .pointer none] 49 (0, 0)) := (hb1.block _ hNr).trans HN.out
          clear hb1 bc n0 n1 n2 o6 o7 o8 aj0 hTr hNr hAr hOr
          clear t3 t9 t8
          have HSW := show Hid _ from SW
          have HBW := show Hid _ from BW
          have HNW := show Hid _ from NW
          obtain ⟨a1, c1, hT, hac⟩ := SW.tr
          obtain ⟨rfl, rfl⟩ := hac hlt
          have hA := SW.ag
          have hrow : rowV tp j es.length j = .pointer (some ⟨tp j, 0, none⟩) := by unfold rowV; rw [if_pos (by omega)]; rfl
          have aj : W.cell? ⟨A, j, none⟩ = some (.pointer (some ⟨tp j, 0, none⟩)) := by rw [← hrow]; exact cell_of hA (rowL_get hlt)
          have fj : W.frozen? ⟨A, j, none⟩ = false := free_of hA
          have t8 : W.cell? ⟨T, 8, none⟩ = some (.slice (some ⟨A, j, none⟩) (d + 1) (d + 1)) := by rw [← HD.out]; exact cell_of hT rfl
          have hT1 : (W.setCell ⟨A, j, none⟩ (.pointer none)).heap[T]? = some (.cells (trCells room (costFrom es j) M (.slice (some ⟨A, j, none⟩) (es.length - j) (es.length - j))) 62 (0, 0)) := by rw [set_other HBk.out.TA]; exact hT
          have t81 : (W.setCell ⟨A, j, none⟩ (.pointer none)).cell? ⟨T, 8, none⟩ = some (.slice (some ⟨A, j, none⟩) (d + 1) (d + 1)) := by rw [← HD.out]; exact cell_of hT1 rfl
          have f81 : (W.setCell ⟨A, j, none⟩ (.pointer none)).frozen? ⟨T, 8, none⟩ = false := free_of hT1
          clear SW BW NW hac hT hA hrow hT1
          cases d with
          | zero =>
            go_upto_region 5 with fail
            have hdd : 0 = es.length - (j + 1) := by have := HD.out; omega
            have hag : j + 1 < es.length → (some ⟨A, j, none⟩ : Option Addr) = some ⟨A, j + 1, none⟩ ∧ 0 = es.length - (j + 1) := fun h => by have := HD.out; omega
            have hS2 := HSW.out
            have hBk := HBk.out
            have hT2 : ((W.setCell ⟨A, j, none⟩ (.pointer none)).setCell ⟨T, 8, none⟩ (.slice (some ⟨A, j, none⟩) (0) (0))).heap[T]? = some (.cells (trCells room (costFrom es j) M (.slice (some ⟨A, j, none⟩) (0) (0))) 62 (0, 0)) := by
              obtain ⟨a1, c1, hT, _⟩ := hS2.tr
              rw [set_same (by rw [set_other hBk.TA]; exact hT), tr_set8]
            have hO2 : ∃ ra rl, ((W.setCell ⟨A, j, none⟩ (.pointer none)).setCell ⟨T, 8, none⟩ (.slice (some ⟨A, j, none⟩) (0) (0))).heap[tp j]? = some (.cells (txCells (at_ es j).key (at_ es j).en ra rl (at_ es j).rl.toNat) 77 (0, 0)) := by
              obtain ⟨ra, rl, h3⟩ := hS2.ob j hlt
              have hk : keyAt es j j = (at_ es j).key := by unfold keyAt; rw [if_neg (by omega)]
              rw [hk] at h3
              exact ⟨ra, rl, by rw [set_other (hBk.tT j hlt), set_other (hBk.tA j hlt)]; exact h3⟩
            have hM2 : ((W.setCell ⟨A, j, none⟩ (.pointer none)).setCell ⟨T, 8, none⟩ (.slice (some ⟨A, j, none⟩) (0) (0))).heap[M]? = some (.map (mapL es tp j (es.length - j)) es.length) := by
              rw [set_other (Ne.symm hBk.TM), set_other hBk.MA]; exact hS2.mp
            have hB2 : Below B w ((W.setCell ⟨A, j, none⟩ (.pointer none)).setCell ⟨T, 8, none⟩ (.slice (some ⟨A, j, none⟩) (0) (0))) :=
              (HBW.out.setCell (p := ⟨A, j, none⟩) hBk.bA _).setCell (p := ⟨T, 8, none⟩) hBk.bT _
            have hST : ∀ W3 : World, W3.heap = (putB ((W.setCell ⟨A, j, none⟩ (.pointer none)).setCell ⟨T, 8, none⟩ (.slice (some ⟨A, j, none⟩) (0) (0))) M (.map (mapL es tp (j + 1) (es.length - (j + 1))) es.length)).heap →
                St ((W3.setCell ⟨T, 9, none⟩ (.int .i64 (costFrom es (j + 1)))).setCell ⟨tp j, 5, none⟩ (.string ByteArray.empty)).heap es room T M A X tp (j + 1) := fun W3 h => by
              rw [hdd] at h
              exact St.step HSW.out HBk.out hlt (some ⟨A, j, none⟩) _ (fun h => ⟨(hag h).1, rfl⟩) h
            have hN2 : w.heap.size ≠ T := by omega
            have hNW2 : ∀ W3 : World, W3.heap = (putB ((W.setCell ⟨A, j, none⟩ (.pointer none)).setCell ⟨T, 8, none⟩ (.slice (some ⟨A, j, none⟩) (0) (0))) M (.map (mapL es tp (j + 1) (es.length - (j + 1))) es.length)).heap →
                ((W3.setCell ⟨T, 9, none⟩ (.int .i64 (costFrom es (j + 1)))).setCell ⟨tp j, 5, none⟩ (.string ByteArray.empty)).heap[w.heap.size]? = some (.cells #[.int .u64 (wallOf now), .int .i64 (extOf now), .pointer none] 49 (0, 0)) := fun W3 h => by
              rw [set_other (HNT.out.2.2.2 j hlt), set_other HNT.out.1, h, putB_other HNT.out.2.1, set_other HNT.out.1, set_other HNT.out.2.2.1]; exact HNW.out
            generalize (W.setCell ⟨A, j, none⟩ (.pointer none)).setCell ⟨T, 8, none⟩ (.slice (some ⟨A, j, none⟩) (0) (0)) = W2 at hT2 hO2 hM2 hB2 hST hNW2
            obtain ⟨ra, rl, hO2⟩ := hO2
            have HST := show Hid _ from hST
            have HNW2 := show Hid _ from hNW2
            have HB2 := show Hid _ from hB2
            have HM2 := show Hid _ from hM2
            have HT2 := show Hid _ from hT2
            have HO2 := show Hid _ from hO2
            have t7 : W2.cell? ⟨T, 7, none⟩ = some (.map (some M)) := cell_of hT2 rfl
            have k5 : W2.cell? ⟨tp j, 5, none⟩ = some (.string (at_ es j).key) := cell_of hO2 rfl
            have hfd := find_in tp hw.dist (lo := j) (m := es.length - j) (i := j) (Nat.le_refl _) (by omega) (by omega)
            have hdl := fun ty => run_del (P := Try.prog) (w := W2.drew) (a2 := 9) (ty := ty) Try.underlying41 Try.underlying9 HM2.out hfd
            have hmo : (mapL es tp j (es.length - j)).eraseIdxIfInBounds (j - j) = mapL es tp (j + 1) (es.length - (j + 1)) := by
              rw [Nat.sub_self, show es.length - j = es.length - (j + 1) + 1 by omega, mapL_erase]
            rw [hmo] at hdl
            clear hmo hfd hT2 hO2 hM2 hB2 hST hNW2 hS2 hBk hag hdd
            go_region
            clear hdl t7 k5
            have hT3 : (putB W2.drew M (.map (mapL es tp (j + 1) (es.length - (j + 1))) es.length)).heap[T]? = _ := (putB_other HBk.out.TM).trans HT2.out
            have hO3 : (putB W2.drew M (.map (mapL es tp (j + 1) (es.length - (j + 1))) es.length)).heap[tp j]? = _ := (putB_other (HBk.out.tM j hlt)).trans HO2.out
            have hB3 : Below B w (putB W2.drew M (.map (mapL es tp (j + 1) (es.length - (j + 1))) es.length)) := putB_below HB2.out.drew HBk.out.bM
            have hST3 := HST.out (putB W2.drew M (.map (mapL es tp (j + 1) (es.length - (j + 1))) es.length)) rfl
            have hN3 := HNW2.out (putB W2.drew M (.map (mapL es tp (j + 1) (es.length - (j + 1))) es.length)) rfl
            generalize putB W2.drew M (.map (mapL es tp (j + 1) (es.length - (j + 1))) es.length) = W3 at hT3 hO3 hB3 hST3 hN3
            have HST3 := show Hid _ from hST3
            have HN3 := show Hid _ from hN3
            have HB3 := show Hid _ from hB3
            have t9 : W3.cell? ⟨T, 9, none⟩ = some (.int .i64 (costFrom es j)) := cell_of hT3 rfl
            have f9 : W3.frozen? ⟨T, 9, none⟩ = false := free_of hT3
            have k5 : W3.cell? ⟨tp j, 5, none⟩ = some (.string (at_ es j).key) := cell_of hO3 rfl
            have k9 : W3.cell? ⟨tp j, 9, none⟩ = some (.slice ra rl (at_ es j).rl.toNat) := cell_of hO3 rfl
            have hk4 : ∀ m v, ((W3.drewN m).setCell ⟨T, 9, none⟩ v).cell? ⟨tp j, 5, none⟩ = some (.string (at_ es j).key) := fun m v => cell_of (by rw [set_other (HBk.out.tT j hlt)]; exact hO3) rfl
            have fk4 : ∀ m v, ((W3.drewN m).setCell ⟨T, 9, none⟩ v).frozen? ⟨tp j, 5, none⟩ = false := fun m v => free_of (by rw [set_other (HBk.out.tT j hlt)]; exact hO3)
            have hm := at_mem hlt
            have h1 := hw.key _ hm
            have h2 : (at_ es j).rl.toNat ≤ 65536 := by have := hw.rl _ hm; omega
            have HCS := show Hid _ from costFrom_step hlt
            have hcl1 := hw.cost_le (j + 1)
            have hcs : (costFrom es j : Int) - ((256 + (at_ es j).key.size + (at_ es j).rl.toNat : Nat) : Int) = (costFrom es (j + 1) : Nat) := by
              have := HCS.out; unfold Ent.cost at this; omega
            have HCS2 := show Hid _ from hcs
            have hsg : 256 + (at_ es j).key.size + (at_ es j).rl.toNat ≤ costFrom es j := by omega
            generalize (at_ es j).rl.toNat = rc at k9 h2 HCS2 hsg
            clear hT3 hO3 hB3 hST3 hN3 hcs hm HT2 HO2 HM2 HB2 HST HNW2
            go_wp2_with fail
            have hwr : IntKind.i64.wrap ((costFrom es j : Int) - (256 + ((at_ es j).key.size : Int) + (rc : Int))) = (costFrom es (j + 1) : Nat) := by
              have := HCS2.out
              rw [IntKind.wrap_i64]; omega
            go_region_with (go_at_call 23; refine (txcost_any (tp j) (at_ es j).key ra rl rc _ h1 h2 (by simpa using k5) (by simpa using k9)).mono ?_; rintro e w' ⟨rfl, n, rfl⟩)
            all_goals
              go_wp2_with fail
              go_roundw
              case rel =>
                refine ⟨j + 1, by omega, by omega, fun i h1 h2 => ?_, HST3.out, HN3.out, (((below_drew HB3.out _).setCell (p := ⟨T, 9, none⟩) HBk.out.bT _).setCell (p := ⟨tp j, 5, none⟩) (HBk.out.bt j hlt) _)⟩
                rcases Nat.lt_or_eq_of_le (Nat.le_of_lt_succ h2) with h | h
                · exact HNS.out i h1 h
                · subst h; exact HNJ.out
              case measure =>
                have m1 := left_of HS.out
                have m2 : left M _ = es.length - (j + 1) := left_of (w := (W3.setCell ⟨T, 9, none⟩ (.int .i64 (costFrom es (j + 1)))).setCell ⟨tp j, 5, none⟩ (.string ByteArray.empty)) HST3.out
                show left M ((W3.setCell ⟨T, 9, none⟩ (.int .i64 (costFrom es (j + 1)))).setCell ⟨tp j, 5, none⟩ (.string ByteArray.empty)) < left M wr
                rw [m1, m2]; omega
          | succ d =>
            go_upto_region 5 with fail
            have hdd : d + 1 = es.length - (j + 1) := by have := HD.out; omega
            have hag : j + 1 < es.length → (some ⟨A, j + 1, none⟩ : Option Addr) = some ⟨A, j + 1, none⟩ ∧ d + 1 = es.length - (j + 1) := fun h => ⟨rfl, by have := HD.out; omega⟩
            have hS2 := HSW.out
            have hBk := HBk.out
            have hT2 : ((W.setCell ⟨A, j, none⟩ (.pointer none)).setCell ⟨T, 8, none⟩ (.slice (some ⟨A, j + 1, none⟩) (d + 1) (d + 1))).heap[T]? = some (.cells (trCells room (costFrom es j) M (.slice (some ⟨A, j + 1, none⟩) (d + 1) (d + 1))) 62 (0, 0)) := by
              obtain ⟨a1, c1, hT, _⟩ := hS2.tr
              rw [set_same (by rw [set_other hBk.TA]; exact hT), tr_set8]
            have hO2 : ∃ ra rl, ((W.setCell ⟨A, j, none⟩ (.pointer none)).setCell ⟨T, 8, none⟩ (.slice (some ⟨A, j + 1, none⟩) (d + 1) (d + 1))).heap[tp j]? = some (.cells (txCells (at_ es j).key (at_ es j).en ra rl (at_ es j).rl.toNat) 77 (0, 0)) := by
              obtain ⟨ra, rl, h3⟩ := hS2.ob j hlt
              have hk : keyAt es j j = (at_ es j).key := by unfold keyAt; rw [if_neg (by omega)]
              rw [hk] at h3
              exact ⟨ra, rl, by rw [set_other (hBk.tT j hlt), set_other (hBk.tA j hlt)]; exact h3⟩
            have hM2 : ((W.setCell ⟨A, j, none⟩ (.pointer none)).setCell ⟨T, 8, none⟩ (.slice (some ⟨A, j + 1, none⟩) (d + 1) (d + 1))).heap[M]? = some (.map (mapL es tp j (es.length - j)) es.length) := by
              rw [set_other (Ne.symm hBk.TM), set_other hBk.MA]; exact hS2.mp
            have hB2 : Below B w ((W.setCell ⟨A, j, none⟩ (.pointer none)).setCell ⟨T, 8, none⟩ (.slice (some ⟨A, j + 1, none⟩) (d + 1) (d + 1))) :=
              (HBW.out.setCell (p := ⟨A, j, none⟩) hBk.bA _).setCell (p := ⟨T, 8, none⟩) hBk.bT _
            have hST : ∀ W3 : World, W3.heap = (putB ((W.setCell ⟨A, j, none⟩ (.pointer none)).setCell ⟨T, 8, none⟩ (.slice (some ⟨A, j + 1, none⟩) (d + 1) (d + 1))) M (.map (mapL es tp (j + 1) (es.length - (j + 1))) es.length)).heap →
                St ((W3.setCell ⟨T, 9, none⟩ (.int .i64 (costFrom es (j + 1)))).setCell ⟨tp j, 5, none⟩ (.string ByteArray.empty)).heap es room T M A X tp (j + 1) := fun W3 h => by
              rw [hdd] at h
              exact St.step HSW.out HBk.out hlt (some ⟨A, j + 1, none⟩) _ (fun h => ⟨(hag h).1, rfl⟩) h
            have hN2 : w.heap.size ≠ T := by omega
            have hNW2 : ∀ W3 : World, W3.heap = (putB ((W.setCell ⟨A, j, none⟩ (.pointer none)).setCell ⟨T, 8, none⟩ (.slice (some ⟨A, j + 1, none⟩) (d + 1) (d + 1))) M (.map (mapL es tp (j + 1) (es.length - (j + 1))) es.length)).heap →
                ((W3.setCell ⟨T, 9, none⟩ (.int .i64 (costFrom es (j + 1)))).setCell ⟨tp j, 5, none⟩ (.string ByteArray.empty)).heap[w.heap.size]? = some (.cells #[.int .u64 (wallOf now), .int .i64 (extOf now), .pointer none] 49 (0, 0)) := fun W3 h => by
              rw [set_other (HNT.out.2.2.2 j hlt), set_other HNT.out.1, h, putB_other HNT.out.2.1, set_other HNT.out.1, set_other HNT.out.2.2.1]; exact HNW.out
            generalize (W.setCell ⟨A, j, none⟩ (.pointer none)).setCell ⟨T, 8, none⟩ (.slice (some ⟨A, j + 1, none⟩) (d + 1) (d + 1)) = W2 at hT2 hO2 hM2 hB2 hST hNW2
            obtain ⟨ra, rl, hO2⟩ := hO2
            have HST := show Hid _ from hST
            have HNW2 := show Hid _ from hNW2
            have HB2 := show Hid _ from hB2
            have HM2 := show Hid _ from hM2
            have HT2 := show Hid _ from hT2
            have HO2 := show Hid _ from hO2
            have t7 : W2.cell? ⟨T, 7, none⟩ = some (.map (some M)) := cell_of hT2 rfl
            have k5 : W2.cell? ⟨tp j, 5, none⟩ = some (.string (at_ es j).key) := cell_of hO2 rfl
            have hfd := find_in tp hw.dist (lo := j) (m := es.length - j) (i := j) (Nat.le_refl _) (by omega) (by omega)
            have hdl := fun ty => run_del (P := Try.prog) (w := W2.drew) (a2 := 9) (ty := ty) Try.underlying41 Try.underlying9 HM2.out hfd
            have hmo : (mapL es tp j (es.length - j)).eraseIdxIfInBounds (j - j) = mapL es tp (j + 1) (es.length - (j + 1)) := by
              rw [Nat.sub_self, show es.length - j = es.length - (j + 1) + 1 by omega, mapL_erase]
            rw [hmo] at hdl
            clear hmo hfd hT2 hO2 hM2 hB2 hST hNW2 hS2 hBk hag hdd
            go_region
            clear hdl t7 k5
            have hT3 : (putB W2.drew M (.map (mapL es tp (j + 1) (es.length - (j + 1))) es.length)).heap[T]? = _ := (putB_other HBk.out.TM).trans HT2.out
            have hO3 : (putB W2.drew M (.map (mapL es tp (j + 1) (es.length - (j + 1))) es.length)).heap[tp j]? = _ := (putB_other (HBk.out.tM j hlt)).trans HO2.out
            have hB3 : Below B w (putB W2.drew M (.map (mapL es tp (j + 1) (es.length - (j + 1))) es.length)) := putB_below HB2.out.drew HBk.out.bM
            have hST3 := HST.out (putB W2.drew M (.map (mapL es tp (j + 1) (es.length - (j + 1))) es.length)) rfl
            have hN3 := HNW2.out (putB W2.drew M (.map (mapL es tp (j + 1) (es.length - (j + 1))) es.length)) rfl
            generalize putB W2.drew M (.map (mapL es tp (j + 1) (es.length - (j + 1))) es.length) = W3 at hT3 hO3 hB3 hST3 hN3
            have HST3 := show Hid _ from hST3
            have HN3 := show Hid _ from hN3
            have HB3 := show Hid _ from hB3
            have t9 : W3.cell? ⟨T, 9, none⟩ = some (.int .i64 (costFrom es j)) := cell_of hT3 rfl
            have f9 : W3.frozen? ⟨T, 9, none⟩ = false := free_of hT3
            have k5 : W3.cell? ⟨tp j, 5, none⟩ = some (.string (at_ es j).key) := cell_of hO3 rfl
            have k9 : W3.cell? ⟨tp j, 9, none⟩ = some (.slice ra rl (at_ es j).rl.toNat) := cell_of hO3 rfl
            have hk4 : ∀ m v, ((W3.drewN m).setCell ⟨T, 9, none⟩ v).cell? ⟨tp j, 5, none⟩ = some (.string (at_ es j).key) := fun m v => cell_of (by rw [set_other (HBk.out.tT j hlt)]; exact hO3) rfl
            have fk4 : ∀ m v, ((W3.drewN m).setCell ⟨T, 9, none⟩ v).frozen? ⟨tp j, 5, none⟩ = false := fun m v => free_of (by rw [set_other (HBk.out.tT j hlt)]; exact hO3)
            have hm := at_mem hlt
            have h1 := hw.key _ hm
            have h2 : (at_ es j).rl.toNat ≤ 65536 := by have := hw.rl _ hm; omega
            have HCS := show Hid _ from costFrom_step hlt
            have hcl1 := hw.cost_le (j + 1)
            have hcs : (costFrom es j : Int) - ((256 + (at_ es j).key.size + (at_ es j).rl.toNat : Nat) : Int) = (costFrom es (j + 1) : Nat) := by
              have := HCS.out; unfold Ent.cost at this; omega
            have HCS2 := show Hid _ from hcs
            have hsg : 256 + (at_ es j).key.size + (at_ es j).rl.toNat ≤ costFrom es j := by omega
            generalize (at_ es j).rl.toNat = rc at k9 h2 HCS2 hsg
            clear hT3 hO3 hB3 hST3 hN3 hcs hm HT2 HO2 HM2 HB2 HST HNW2
            go_wp2_with fail
            have hwr : IntKind.i64.wrap ((costFrom es j : Int) - (256 + ((at_ es j).key.size : Int) + (rc : Int))) = (costFrom es (j + 1) : Nat) := by
              have := HCS2.out
              rw [IntKind.wrap_i64]; omega
            go_region_with (go_at_call 23; refine (txcost_any (tp j) (at_ es j).key ra rl rc _ h1 h2 (by simpa using k5) (by simpa using k9)).mono ?_; rintro e w' ⟨rfl, n, rfl⟩)
            all_goals
              go_wp2_with fail
              go_roundw
              case rel =>
                refine ⟨j + 1, by omega, by omega, fun i h1 h2 => ?_, HST3.out, HN3.out, (((below_drew HB3.out _).setCell (p := ⟨T, 9, none⟩) HBk.out.bT _).setCell (p := ⟨tp j, 5, none⟩) (HBk.out.bt j hlt) _)⟩
                rcases Nat.lt_or_eq_of_le (Nat.le_of_lt_succ h2) with h | h
                · exact HNS.out i h1 h
                · subst h; exact HNJ.out
              case measure =>
                have m1 := left_of HS.out
                have m2 : left M _ = es.length - (j + 1) := left_of (w := (W3.setCell ⟨T, 9, none⟩ (.int .i64 (costFrom es (j + 1)))).setCell ⟨tp j, 5, none⟩ (.string ByteArray.empty)) HST3.out
                show left M ((W3.setCell ⟨T, 9, none⟩ (.int .i64 (costFrom es (j + 1)))).setCell ⟨tp j, 5, none⟩ (.string ByteArray.empty)) < left M wr
                rw [m1, m2]; omega
        · have hen2 : decide ((at_ es j).en < now) = false := decide_eq_false hen
          go_wp2_with fail
          go_region_held3 (fun w' => w'.cell? ⟨T, 8, none⟩ = some (.slice (some ⟨A, j, none⟩) (d + 1) (d + 1)) ∧ w'.cell? ⟨T, 9, none⟩ = some (.int .i64 (costFrom es j)) ∧ w'.cell? ⟨T, 3, none⟩ = some (.int .i64 room) ∧
              w'.cell? ⟨w.heap.size, 0, none⟩ = some (.int .u64 (wallOf now)) ∧ w'.cell? ⟨w.heap.size, 1, none⟩ = some (.int .i64 (extOf now)) ∧ w'.cell? ⟨w.heap.size, 2, none⟩ = some (.pointer none) ∧
              w'.cell? ⟨tp j, 6, none⟩ = some (.int .u64 (wallOf (at_ es j).en)) ∧ w'.cell? ⟨tp j, 7, none⟩ = some (.int .i64 (extOf (at_ es j).en)) ∧ w'.cell? ⟨tp j, 8, none⟩ = some (.pointer none) ∧
              w'.cell? ⟨A, j, none⟩ = some (.pointer (some ⟨tp j, 0, none⟩))) (first | go_keep | (exact ⟨(bc _ _ hTr).trans t8, (bc _ _ hTr).trans t9, (bc _ _ hTr).trans t3, (bc _ _ hNr).trans n0, (bc _ _ hNr).trans n1, (bc _ _ hNr).trans n2, (bc _ _ hOr).trans o6, (bc _ _ hOr).trans o7, (bc _ _ hOr).trans o8, (bc _ _ hAr).trans aj0⟩))
            (first | (go_at_call 22; refine (after_any now (at_ es j).en _).mono ?_; rintro e W ⟨rfl, hb1⟩; have bc := bcell hb1))
          have SW : St W.heap es room T M A X tp j := HS.out.below (S := wr.heap.size) ((Below.refl _ _).drew.trans hb1) (Nat.le_refl _)
          have BW : Below B w W := HBel.out.drew.trans (hb1.mono (Nat.le_trans (by omega) (Nat.le_of_lt hNr)))
          have HSW := show Hid _ from SW
          have HBW := show Hid _ from BW
          clear hb1 bc n0 n1 n2 o6 o7 o8 aj0 hTr hNr hAr hOr SW BW
          go_wp2_with fail
          go_end0
          exact ⟨rfl, j, ⟨hj1, hj2, Or.inr ⟨by omega, by omega⟩, HNS.out⟩, HSW.out, HBW.out⟩
    · have hz : es.length - j = 0 := by omega
      rw [hz] at t8
      clear hz hac
      go_wp2_with fail
      go_quiet (fail)
      go_wp2_with fail
      go_end0
      obtain rfl : j = es.length := by omega
      exact ⟨rfl, es.length, ⟨hj1, Nat.le_refl _, Or.inl (Nat.le_refl _), HNS.out⟩, HS.out, below_drew HBel.out _⟩

end Go.Proofs.Qxb6615209a
