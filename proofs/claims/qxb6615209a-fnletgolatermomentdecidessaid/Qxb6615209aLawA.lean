/-
  FnLetGoLaterMomentDecides, walked out of its callees' contracts.
-/
import Derived.Test.Qxb6615209aPtr
import Derived.Test.Qxb6615209aOpen
namespace Go.Proofs.Qxb6615209a
open Go.RowKit

theorem wf_of {es : List Ent} (h1 : 32 * es.length + keySum es ≤ 1048576) (h2 : ∀ e ∈ es, e.key.size ≤ 1048576) (h3 : ∀ e ∈ es, 0 ≤ e.rl ∧ e.rl ≤ 65536) (h4 : rlSum es ≤ 1048576) (h5 : FormTo es es.length) : WF es where
  len := by omega
  key := h2
  rl := h3
  sum := by rw [costFrom_zero]; omega
  ne := fun e he => by obtain ⟨i, hi, rfl⟩ := mem_at he; exact h5.ne i hi
  dist := h5.dist
  sorted := h5.sorted

def TruePost (w : World) (e : Ending) (w' : World) : Prop := e = .returned (.bool true) ∧ Below w.heap.size w w'

theorem build_any' (room : Int) (a : Option Addr) (cap : Nat) (es : List Ent) (w : World) (hr : EReads w a es) (hw : WF es) (he : ∀ e ∈ es, -9223372036854775808 ≤ e.en ∧ e.en ≤ 9223372036854775807) :
    Calls Try.prog 9 #[.int .i64 room, .slice a es.length cap] w fun e w' => ∃ T A X tp, e = .returned (.tuple #[.pointer (some ⟨T, 0, none⟩), .slice (some ⟨X, 0, none⟩) es.length es.length]) ∧
      St w'.heap es room T w.heap.size A X tp 0 ∧ Blk w.heap.size es.length T w.heap.size A X tp ∧ Below w.heap.size w w' := build_any room a cap es w hr hw he

set_option maxHeartbeats 16000000 in
set_option maxRecDepth 100000 in
theorem lawA_any (room na nb : Int) (a : Option Addr) (cap : Nat) (es : List Ent) (w : World) (hr : EReads w a es) (hlen : es.length ≤ 9223372036854775807) (hI : InI es)
    (hr1 : room ≤ 9223372036854775807) (ha0 : -9223372036854775808 ≤ na) (ha1 : na ≤ 9223372036854775807) (hb0 : -9223372036854775808 ≤ nb) (hb1 : nb ≤ 9223372036854775807) :
    Calls Try.prog 3 #[.int .i64 room, .int .i64 na, .int .i64 nb, .slice a es.length cap] w fun e w' => TruePost w e w' := by
  have hptr := run_neq_tx
  have HI := show Hid _ from hI
  clear hI
  go_enter Try.func3, Try.ntmps3
  go_wp2_with fail
  refine (bytes5_any room na nb a cap es w hr hlen).mono ?_
  rintro e w' ⟨bb, rfl, hw', hP⟩; subst w'
  cases bb
  · go_wp2_with fail
    go_ret
    exact ⟨rfl, Below.refl _ _⟩
  have hn : es.length ≤ 1048576 := (hP rfl).1
  have HK : Hid (∀ e ∈ es, e.key.size ≤ 1048576) := (hP rfl).2
  clear hP
  go_wp2_with fail
  go_loop [9, 10] (fun z i => ∃ k m : Nat, k ≤ es.length ∧ i = .int .i64 k ∧ z = .int .i64 m ∧ m = 32 * k + keySum (es.take k) ∧ m ≤ 1048576) (fun _ i => es.length - (intOf i).toNat)
  case atStart => exact ⟨0, 0, Nat.zero_le _, rfl, rfl, rfl, by omega⟩
  case round =>
    obtain ⟨k, m, hk, rfl, rfl, hm, hm2⟩ := hrel
    have HM := show Hid _ from hm
    clear hm
    by_cases hlt : k < es.length
    · obtain ⟨b, off, rfl, c0, _, _⟩ := hr k hlt
      have HT : Hid (keySum (es.take (k + 1)) = keySum (es.take k) + (at_ es k).key.size) := by rw [take_snoc hlt, keySum_snoc]; exact rfl
      have h1 := HK.out _ (at_mem hlt)
      generalize at_ es k = x at c0 HT h1
      clear hr
      by_cases h2 : m + (32 + x.key.size) ≤ 1048576
      · go_wp2_with fail
        go_round
        case rel => exact ⟨k + 1, m + (32 + x.key.size), by omega, by go_num, by go_num, by have := HM.out; have := HT.out; omega, h2⟩
        case measure => simp [intOf]; omega
      · go_wp2_with fail
        go_ret
        exact ⟨rfl, Below.refl _ _⟩
    · have hke : es.take k = es := List.take_of_length_le (by omega)
      have H1 : Hid (32 * es.length + keySum es ≤ 1048576) := by have := HM.out; rw [hke] at this; show _ ≤ _; omega
      have hn2 : es.length ≤ 32768 := by have := H1.out; omega
      clear hke HM hm2 hn
      go_wp2_with fail
      go_loop [11, 12] (fun z i => ∃ k m : Nat, k ≤ es.length ∧ i = .int .i64 k ∧ z = .int .i64 m ∧ m = rlSum (es.take k) ∧ m ≤ 1048576 ∧ ∀ e ∈ es.take k, 0 ≤ e.rl ∧ e.rl ≤ 65536) (fun _ i => es.length - (intOf i).toNat)
      case atStart => exact ⟨0, 0, Nat.zero_le _, rfl, rfl, rfl, by omega, fun e he => by simp at he⟩
      case round =>
        obtain ⟨k2, m2, hk2, rfl, rfl, hmm, hmm2, hall⟩ := hrel
        have HM := show Hid _ from hmm
        have HA := show Hid _ from hall
        clear hmm hall
        by_cases hlt2 : k2 < es.length
        · obtain ⟨b, off, rfl, _, _, c2⟩ := hr k2 hlt2
          have HT : Hid (rlSum (es.take (k2 + 1)) = rlSum (es.take k2) + (at_ es k2).rl.toNat) := by rw [take_snoc hlt2, rlSum_snoc]; exact rfl
          have HT2 : Hid (es.take (k2 + 1) = es.take k2 ++ [at_ es k2]) := take_snoc hlt2
          have h1 := (HI.out _ (at_mem hlt2)).2
          generalize at_ es k2 = x at c2 HT HT2 h1
          clear hr
          obtain ⟨h1a, h1b⟩ := h1
          by_cases hneg : x.rl < 0
          · go_wp2_with fail
            go_ret
            exact ⟨rfl, Below.refl _ _⟩
          · by_cases hbig : 65536 < x.rl
            · go_wp2_with fail
              go_ret
              exact ⟨rfl, Below.refl _ _⟩
            · obtain ⟨rl, hrl⟩ : ∃ rl : Nat, x.rl = rl := ⟨x.rl.toNat, by omega⟩
              have HRL := show Hid _ from hrl
              rw [hrl] at c2 hneg hbig h1a h1b
              have hrb : rl ≤ 65536 := by omega
              clear hrl hneg hbig h1a h1b
              by_cases hs : m2 + rl ≤ 1048576
              · go_wp2_with fail
                go_round
                case rel =>
                  refine ⟨k2 + 1, m2 + rl, by omega, by go_num, by go_num, by have := HM.out; have := HT.out; have := HRL.out; omega, hs, fun e he => ?_⟩
                  rw [HT2.out, List.mem_append] at he
                  rcases he with he | he
                  · exact HA.out e he
                  · rw [List.mem_singleton] at he; rw [he, HRL.out]; omega
                case measure => simp [intOf]; omega
              · go_wp2_with fail
                go_ret
                exact ⟨rfl, Below.refl _ _⟩
        · have hke : es.take k2 = es := List.take_of_length_le (by omega)
          have H2 : Hid (rlSum es ≤ 1048576) := by have := HM.out; rw [hke] at this; show _ ≤ _; omega
          have H3 : Hid (∀ e ∈ es, 0 ≤ e.rl ∧ e.rl ≤ 65536) := by have := HA.out; rw [hke] at this; exact this
          clear hke HM HA hmm2
          by_cases hro : room < 0
          · go_wp2_with fail
            go_ret
            exact ⟨rfl, Below.refl _ _⟩
          go_wp2_with fail
          refine (form_any a cap es w hr hn2).mono ?_
          rintro e w1 ⟨bb, rfl, hB1, hF⟩
          have HB1 : Hid (Below w.heap.size w w1) := hB1
          cases bb
          · clear hB1
            go_wp2_with fail
            go_ret
            exact ⟨rfl, HB1.out⟩
          have HW : Hid (WF es) := wf_of H1.out HK.out H3.out H2.out (hF rfl)
          have HE : Hid (∀ e ∈ es, -9223372036854775808 ≤ e.en ∧ e.en ≤ 9223372036854775807) := fun e he => (HI.out e he).1
          have HR1 : Hid (EReads w1 a es) := hr.below hB1
          clear hB1 hF H1 H2 H3 HK HI hr
          by_cases hab : na < nb
          · have HL : Hid ((if na < nb then nb else na) = nb) := if_pos hab
            go_wp2_with fail
            refine (dropped_any room nb a cap es w1 HR1.out HW.out (by omega) hr1).mono ?_
            rintro e w2 ⟨k, rfl, hD, hB2⟩
            have HD : Hid (Runs es room nb 0 k) := hD.runs HW.out.sorted
            have HB2 : Hid (Below w.heap.size w w2) := HB1.out.trans (hB2.mono HB1.out.size)
            have HR2 : Hid (EReads w2 a es) := EReads.below HR1.out hB2
            have hkn := HD.out.len
            clear hD hB2
            go_wp2_with fail
            refine (costFrom_any a cap es k w2 HR2.out HW.out hkn).mono ?_
            rintro e w3 ⟨rfl, hB3⟩
            have HB3 : Hid (Below w.heap.size w w3) := HB2.out.trans (hB3.mono HB2.out.size)
            have HR3 : Hid (EReads w3 a es) := EReads.below HR2.out hB3
            clear hB3
            go_wp2_with fail
            refine (build_any' room a cap es w3 HR3.out HW.out HE.out).mono ?_
            rintro e w4 ⟨T, A, X, tp, rfl, hS, hBk, hB4⟩
            have HS4 := show Hid _ from hS
            have HBk := show Hid _ from hBk
            have HB4 := show Hid _ from hB4
            clear hS hBk hB4
            go_wp2_with fail
            refine (zgo_any w4 w3.heap.size es room na T _ A X tp 0 HS4.out HBk.out HW.out (Nat.zero_le _) ha0 ha1).mono ?_
            rintro e w5 ⟨rfl, x, hx1, hx2, hx3⟩
            have HX1 := show Hid _ from hx1
            have HX2 := show Hid _ from hx2
            have HX3 := show Hid _ from hx3
            clear hx1 hx2 hx3
            go_wp2_with fail
            refine (zgo_any w5 w3.heap.size es room nb T _ A X tp x HX2.out HBk.out HW.out HX1.out.len hb0 hb1).mono ?_
            rintro e w6 ⟨rfl, y, hy1, hy2, hy3⟩
            have HY1 := show Hid _ from hy1
            have HY2 := show Hid _ from hy2
            have HB6 : Hid (Below w.heap.size w w6) := HB3.out.trans (((HB4.out.trans HX3.out).trans hy3).mono HB3.out.size)
            have HR6 : Hid (EReads w6 a es) := EReads.below HR3.out ((HB4.out.trans HX3.out).trans hy3)
            clear hy1 hy2 hy3
            go_wp2_with fail
            refine (build_any' room a cap es w6 HR6.out HW.out HE.out).mono ?_
            rintro e w7 ⟨T2, A2, X2, tp2, rfl, hS, hBk, hB7⟩
            have HS7 := show Hid _ from hS
            have HBk2 := show Hid _ from hBk
            have HB7 := show Hid _ from hB7
            clear hS hBk hB7
            go_wp2_with fail
            refine (zgo_any w7 w6.heap.size es room nb T2 _ A2 X2 tp2 0 HS7.out HBk2.out HW.out (Nat.zero_le _) hb0 hb1).mono ?_
            rintro e w8 ⟨rfl, z, hz1, hz2, hz3⟩
            have hyk : y = k := HX1.out.later HW.out.sorted HY1.out (by rw [HL.out]; exact HD.out)
            have hzk : z = k := hz1.unique HD.out
            have S1 : St w8.heap es room T w3.heap.size A X tp k := by rw [← hyk]; exact HY2.out.below (HB7.out.trans hz3) (Nat.le_refl _)
            have S2 : St w8.heap es room T2 w6.heap.size A2 X2 tp2 k := by rw [← hzk]; exact hz2
            have HB8 : Hid (Below w.heap.size w w8) := HB6.out.trans ((HB7.out.trans hz3).mono HB6.out.size)
            clear hz1 hz2 hz3 hyk hzk HS4 HX1 HX2 HX3 HY1 HY2 HB7 HS7 HR1 HR2 HR3 HR6 HB1 HB2 HB3 HB4 HB6 HE
            obtain ⟨q, hq⟩ : ∃ q, es.length - k = q := ⟨_, rfl⟩
            have q1 : es.length ≤ k + q := by omega
            have q2 : k + q ≤ es.length := by omega
            obtain ⟨a1, d1, hT1, hac1⟩ := S1.tr
            obtain ⟨a2, d2, hT2, hac2⟩ := S2.tr
            rw [hq] at hT1 hac1 hT2 hac2
            have g1 : w8.cell? ⟨T, 8, none⟩ = some (.slice a1 q d1) := cell_of hT1 rfl
            have g2 : w8.cell? ⟨T2, 8, none⟩ = some (.slice a2 q d2) := cell_of hT2 rfl
            have g3 : w8.cell? ⟨T, 9, none⟩ = some (.int .i64 (costFrom es k)) := cell_of hT1 rfl
            have g4 : w8.cell? ⟨T2, 9, none⟩ = some (.int .i64 (costFrom es k)) := cell_of hT2 rfl
            have hAC1 := show Hid _ from hac1
            have hAC2 := show Hid _ from hac2
            have HS1 := show Hid _ from S1
            have HS2 := show Hid _ from S2
            have HQ := show Hid _ from hq
            clear S1 S2 hac1 hac2 hT1 hT2 hq
            have hne : ((q : Int) != (es.length : Int) - (k : Int)) = false := by simp; omega
            go_wp2_with fail
            refine (aging_any T (.slice a1 q d1) w8 ⟨_, _, _, rfl⟩ g1).mono ?_
            rintro e w' ⟨rfl, hw'⟩; subst w'
            go_wp2_with fail
            refine (aging_any T2 (.slice a2 q d2) w8 ⟨_, _, _, rfl⟩ g2).mono ?_
            rintro e w' ⟨rfl, hw'⟩; subst w'
            go_wp2_with fail
            refine (size_any T (costFrom es k) w8 g3).mono ?_
            rintro e w' ⟨rfl, hw'⟩; subst w'
            go_wp2_with fail
            refine (size_any T2 (costFrom es k) w8 g4).mono ?_
            rintro e w' ⟨rfl, hw'⟩; subst w'
            clear g1 g2 g3 g4
            go_wp2_with fail
            go_loopw [23] (fun i wr => ∃ j nd : Nat, j ≤ q ∧ i = .int .i64 j ∧ wr = w8.drewN nd) (fun i _ => q - (intOf i).toNat)
            case atStart => exact ⟨0, 0, Nat.zero_le _, rfl, rfl⟩
            case round =>
              obtain ⟨j, nd, hj, rfl, rfl⟩ := hrel
              by_cases hjq : j < q
              · obtain ⟨e1, e2⟩ := hAC1.out (by omega)
                obtain ⟨e3, e4⟩ := hAC2.out (by omega)
                subst a1 a2 d1 d2
                have hrw : ∀ tq lo, lo ≤ k → rowV tq lo es.length (k + j) = .pointer (some ⟨tq (k + j), 0, none⟩) := fun tq lo h => by unfold rowV; rw [if_pos (by omega)]; rfl
                have c1 : w8.cell? ⟨A, k + j, none⟩ = some (.pointer (some ⟨tp (k + j), 0, none⟩)) := by rw [← hrw tp k (Nat.le_refl _)]; exact cell_of HS1.out.ag (rowL_get (by omega))
                have c2 : w8.cell? ⟨X, k + j, none⟩ = some (.pointer (some ⟨tp (k + j), 0, none⟩)) := by rw [← hrw tp 0 (Nat.zero_le _)]; exact cell_of HS1.out.tx (rowL_get (by omega))
                have c3 : w8.cell? ⟨A2, k + j, none⟩ = some (.pointer (some ⟨tp2 (k + j), 0, none⟩)) := by rw [← hrw tp2 k (Nat.le_refl _)]; exact cell_of HS2.out.ag (rowL_get (by omega))
                have c4 : w8.cell? ⟨X2, k + j, none⟩ = some (.pointer (some ⟨tp2 (k + j), 0, none⟩)) := by rw [← hrw tp2 0 (Nat.zero_le _)]; exact cell_of HS2.out.tx (rowL_get (by omega))
                have b0 : (0 : Int) ≤ (k : Int) + (j : Int) := by omega
                have b1 : (k : Int) + (j : Int) < (es.length : Int) := by omega
                have b2 : (j : Int) < (q : Int) := by omega
                have hwr : IntKind.i64.wrap ((k : Int) + (j : Int)) = (k : Int) + (j : Int) := by rw [IntKind.wrap_i64]; omega
                have htn : ((k : Int) + (j : Int)).toNat = k + j := by omega
                clear hrw
                go_wp2_with fail
                go_quiet (fail)
                go_wp2_with fail
                go_roundw
                case rel => exact ⟨j + 1, _, by omega, by go_num, rfl⟩
                case measure => simp [intOf]; omega
              · go_wp2_with fail
                go_ret
                exact ⟨rfl, below_drew HB8.out _⟩
          · have HL : Hid ((if na < nb then nb else na) = na) := if_neg hab
            go_wp2_with fail
            refine (dropped_any room na a cap es w1 HR1.out HW.out (by omega) hr1).mono ?_
            rintro e w2 ⟨k, rfl, hD, hB2⟩
            have HD : Hid (Runs es room na 0 k) := hD.runs HW.out.sorted
            have HB2 : Hid (Below w.heap.size w w2) := HB1.out.trans (hB2.mono HB1.out.size)
            have HR2 : Hid (EReads w2 a es) := EReads.below HR1.out hB2
            have hkn := HD.out.len
            clear hD hB2
            go_wp2_with fail
            refine (costFrom_any a cap es k w2 HR2.out HW.out hkn).mono ?_
            rintro e w3 ⟨rfl, hB3⟩
            have HB3 : Hid (Below w.heap.size w w3) := HB2.out.trans (hB3.mono HB2.out.size)
            have HR3 : Hid (EReads w3 a es) := EReads.below HR2.out hB3
            clear hB3
            go_wp2_with fail
            refine (build_any' room a cap es w3 HR3.out HW.out HE.out).mono ?_
            rintro e w4 ⟨T, A, X, tp, rfl, hS, hBk, hB4⟩
            have HS4 := show Hid _ from hS
            have HBk := show Hid _ from hBk
            have HB4 := show Hid _ from hB4
            clear hS hBk hB4
            go_wp2_with fail
            refine (zgo_any w4 w3.heap.size es room na T _ A X tp 0 HS4.out HBk.out HW.out (Nat.zero_le _) ha0 ha1).mono ?_
            rintro e w5 ⟨rfl, x, hx1, hx2, hx3⟩
            have HX1 := show Hid _ from hx1
            have HX2 := show Hid _ from hx2
            have HX3 := show Hid _ from hx3
            clear hx1 hx2 hx3
            go_wp2_with fail
            refine (zgo_any w5 w3.heap.size es room nb T _ A X tp x HX2.out HBk.out HW.out HX1.out.len hb0 hb1).mono ?_
            rintro e w6 ⟨rfl, y, hy1, hy2, hy3⟩
            have HY1 := show Hid _ from hy1
            have HY2 := show Hid _ from hy2
            have HB6 : Hid (Below w.heap.size w w6) := HB3.out.trans (((HB4.out.trans HX3.out).trans hy3).mono HB3.out.size)
            have HR6 : Hid (EReads w6 a es) := EReads.below HR3.out ((HB4.out.trans HX3.out).trans hy3)
            clear hy1 hy2 hy3
            go_wp2_with fail
            refine (build_any' room a cap es w6 HR6.out HW.out HE.out).mono ?_
            rintro e w7 ⟨T2, A2, X2, tp2, rfl, hS, hBk, hB7⟩
            have HS7 := show Hid _ from hS
            have HBk2 := show Hid _ from hBk
            have HB7 := show Hid _ from hB7
            clear hS hBk hB7
            go_wp2_with fail
            refine (zgo_any w7 w6.heap.size es room na T2 _ A2 X2 tp2 0 HS7.out HBk2.out HW.out (Nat.zero_le _) ha0 ha1).mono ?_
            rintro e w8 ⟨rfl, z, hz1, hz2, hz3⟩
            have hyk : y = k := HX1.out.later HW.out.sorted HY1.out (by rw [HL.out]; exact HD.out)
            have hzk : z = k := hz1.unique HD.out
            have S1 : St w8.heap es room T w3.heap.size A X tp k := by rw [← hyk]; exact HY2.out.below (HB7.out.trans hz3) (Nat.le_refl _)
            have S2 : St w8.heap es room T2 w6.heap.size A2 X2 tp2 k := by rw [← hzk]; exact hz2
            have HB8 : Hid (Below w.heap.size w w8) := HB6.out.trans ((HB7.out.trans hz3).mono HB6.out.size)
            clear hz1 hz2 hz3 hyk hzk HS4 HX1 HX2 HX3 HY1 HY2 HB7 HS7 HR1 HR2 HR3 HR6 HB1 HB2 HB3 HB4 HB6 HE
            obtain ⟨q, hq⟩ : ∃ q, es.length - k = q := ⟨_, rfl⟩
            have q1 : es.length ≤ k + q := by omega
            have q2 : k + q ≤ es.length := by omega
            obtain ⟨a1, d1, hT1, hac1⟩ := S1.tr
            obtain ⟨a2, d2, hT2, hac2⟩ := S2.tr
            rw [hq] at hT1 hac1 hT2 hac2
            have g1 : w8.cell? ⟨T, 8, none⟩ = some (.slice a1 q d1) := cell_of hT1 rfl
            have g2 : w8.cell? ⟨T2, 8, none⟩ = some (.slice a2 q d2) := cell_of hT2 rfl
            have g3 : w8.cell? ⟨T, 9, none⟩ = some (.int .i64 (costFrom es k)) := cell_of hT1 rfl
            have g4 : w8.cell? ⟨T2, 9, none⟩ = some (.int .i64 (costFrom es k)) := cell_of hT2 rfl
            have hAC1 := show Hid _ from hac1
            have hAC2 := show Hid _ from hac2
            have HS1 := show Hid _ from S1
            have HS2 := show Hid _ from S2
            have HQ := show Hid _ from hq
            clear S1 S2 hac1 hac2 hT1 hT2 hq
            have hne : ((q : Int) != (es.length : Int) - (k : Int)) = false := by simp; omega
            go_wp2_with fail
            refine (aging_any T (.slice a1 q d1) w8 ⟨_, _, _, rfl⟩ g1).mono ?_
            rintro e w' ⟨rfl, hw'⟩; subst w'
            go_wp2_with fail
            refine (aging_any T2 (.slice a2 q d2) w8 ⟨_, _, _, rfl⟩ g2).mono ?_
            rintro e w' ⟨rfl, hw'⟩; subst w'
            go_wp2_with fail
            refine (size_any T (costFrom es k) w8 g3).mono ?_
            rintro e w' ⟨rfl, hw'⟩; subst w'
            go_wp2_with fail
            refine (size_any T2 (costFrom es k) w8 g4).mono ?_
            rintro e w' ⟨rfl, hw'⟩; subst w'
            clear g1 g2 g3 g4
            go_wp2_with fail
            go_loopw [23] (fun i wr => ∃ j nd : Nat, j ≤ q ∧ i = .int .i64 j ∧ wr = w8.drewN nd) (fun i _ => q - (intOf i).toNat)
            case atStart => exact ⟨0, 0, Nat.zero_le _, rfl, rfl⟩
            case round =>
              obtain ⟨j, nd, hj, rfl, rfl⟩ := hrel
              by_cases hjq : j < q
              · obtain ⟨e1, e2⟩ := hAC1.out (by omega)
                obtain ⟨e3, e4⟩ := hAC2.out (by omega)
                subst a1 a2 d1 d2
                have hrw : ∀ tq lo, lo ≤ k → rowV tq lo es.length (k + j) = .pointer (some ⟨tq (k + j), 0, none⟩) := fun tq lo h => by unfold rowV; rw [if_pos (by omega)]; rfl
                have c1 : w8.cell? ⟨A, k + j, none⟩ = some (.pointer (some ⟨tp (k + j), 0, none⟩)) := by rw [← hrw tp k (Nat.le_refl _)]; exact cell_of HS1.out.ag (rowL_get (by omega))
                have c2 : w8.cell? ⟨X, k + j, none⟩ = some (.pointer (some ⟨tp (k + j), 0, none⟩)) := by rw [← hrw tp 0 (Nat.zero_le _)]; exact cell_of HS1.out.tx (rowL_get (by omega))
                have c3 : w8.cell? ⟨A2, k + j, none⟩ = some (.pointer (some ⟨tp2 (k + j), 0, none⟩)) := by rw [← hrw tp2 k (Nat.le_refl _)]; exact cell_of HS2.out.ag (rowL_get (by omega))
                have c4 : w8.cell? ⟨X2, k + j, none⟩ = some (.pointer (some ⟨tp2 (k + j), 0, none⟩)) := by rw [← hrw tp2 0 (Nat.zero_le _)]; exact cell_of HS2.out.tx (rowL_get (by omega))
                have b0 : (0 : Int) ≤ (k : Int) + (j : Int) := by omega
                have b1 : (k : Int) + (j : Int) < (es.length : Int) := by omega
                have b2 : (j : Int) < (q : Int) := by omega
                have hwr : IntKind.i64.wrap ((k : Int) + (j : Int)) = (k : Int) + (j : Int) := by rw [IntKind.wrap_i64]; omega
                have htn : ((k : Int) + (j : Int)).toNat = k + j := by omega
                clear hrw
                go_wp2_with fail
                go_quiet (fail)
                go_wp2_with fail
                go_roundw
                case rel => exact ⟨j + 1, _, by omega, by go_num, rfl⟩
                case measure => simp [intOf]; omega
              · go_wp2_with fail
                go_ret
                exact ⟨rfl, below_drew HB8.out _⟩

end Go.Proofs.Qxb6615209a
