/-
  FnLetGoKeepsBooks, walked out of its callees' contracts.
-/
import Derived.Test.Qxb6615209aBooks
import Derived.Test.Qxb6615209aOpen
namespace Go.Proofs.Qxb6615209a
open Go.RowKit

theorem wf_ofB {es : List Ent} (h1 : 32 * es.length + keySum es ≤ 1048576) (h2 : ∀ e ∈ es, e.key.size ≤ 1048576) (h3 : ∀ e ∈ es, 0 ≤ e.rl ∧ e.rl ≤ 65536) (h4 : rlSum es ≤ 1048576) (h5 : FormTo es es.length) : WF es where
  len := by omega
  key := h2
  rl := h3
  sum := by rw [costFrom_zero]; omega
  ne := fun e he => by obtain ⟨i, hi, rfl⟩ := mem_at he; exact h5.ne i hi
  dist := h5.dist
  sorted := h5.sorted

theorem build_anyB (room : Int) (a : Option Addr) (cap : Nat) (es : List Ent) (w : World) (hr : EReads w a es) (hw : WF es) (he : ∀ e ∈ es, -9223372036854775808 ≤ e.en ∧ e.en ≤ 9223372036854775807) :
    Calls Try.prog 9 #[.int .i64 room, .slice a es.length cap] w fun e w' => ∃ T A X tp, e = .returned (.tuple #[.pointer (some ⟨T, 0, none⟩), .slice (some ⟨X, 0, none⟩) es.length es.length]) ∧
      St w'.heap es room T w.heap.size A X tp 0 ∧ Blk w.heap.size es.length T w.heap.size A X tp ∧ Below w.heap.size w w' := build_any room a cap es w hr hw he

set_option maxHeartbeats 16000000 in
set_option maxRecDepth 100000 in
theorem lawB_any (room na : Int) (a : Option Addr) (cap : Nat) (es : List Ent) (w : World) (hr : EReads w a es) (hlen : es.length ≤ 9223372036854775807) (hI : InI es)
    (hr1 : room ≤ 9223372036854775807) (ha0 : -9223372036854775808 ≤ na) (ha1 : na ≤ 9223372036854775807) :
    Calls Try.prog 4 #[.int .i64 room, .int .i64 na, .slice a es.length cap] w fun e w' => TruePost w e w' := by
  have HI := show Hid _ from hI
  clear hI
  go_enter Try.func4, Try.ntmps4
  go_wp2_with fail
  refine (bytes13_any room na a cap es w hr hlen).mono ?_
  rintro e w' ⟨bb, rfl, hw', hP⟩; subst w'
  cases bb
  · go_wp2_with fail
    go_ret
    exact ⟨rfl, Below.refl _ _⟩
  have hn : es.length ≤ 1048576 := (hP rfl).1
  have HK : Hid (∀ e ∈ es, e.key.size ≤ 1048576) := (hP rfl).2
  clear hP
  go_wp2_with fail
  go_loop [7, 8] (fun z i => ∃ k m : Nat, k ≤ es.length ∧ i = .int .i64 k ∧ z = .int .i64 m ∧ m = 32 * k + keySum (es.take k) ∧ m ≤ 1048576) (fun _ i => es.length - (intOf i).toNat)
  case atStart => exact ⟨0, 0, Nat.zero_le _, rfl, rfl, rfl, by omega⟩
  case round =>
    obtain ⟨k, m, hk, rfl, rfl, hm, hm2⟩ := hrel
    have HM := show Hid _ from hm
    clear hm
    by_cases hlt : k < es.length
    · obtain ⟨b, off, rfl, c0, _, _⟩ := hr k hlt
      have HT : Hid (keySum (es.take (k + 1)) = keySum (es.take k) + (at_ es k).key.size) := by rw [take_snoc hlt, keySum_snoc]; exact rfl
      have h1 := HK.out _ (at_mem hlt)
      generalize at_ es k = x at c0 HT h1
      clear hr
      by_cases h2 : m + (32 + x.key.size) ≤ 1048576
      · go_wp2_with fail
        go_round
        case rel => exact ⟨k + 1, m + (32 + x.key.size), by omega, by go_num, by go_num, by have := HM.out; have := HT.out; omega, h2⟩
        case measure => simp [intOf]; omega
      · go_wp2_with fail
        go_ret
        exact ⟨rfl, Below.refl _ _⟩
    · have hke : es.take k = es := List.take_of_length_le (by omega)
      have H1 : Hid (32 * es.length + keySum es ≤ 1048576) := by have := HM.out; rw [hke] at this; show _ ≤ _; omega
      have hn2 : es.length ≤ 32768 := by have := H1.out; omega
      clear hke HM hm2 hn
      go_wp2_with fail
      go_loop [9, 10] (fun z i => ∃ k m : Nat, k ≤ es.length ∧ i = .int .i64 k ∧ z = .int .i64 m ∧ m = rlSum (es.take k) ∧ m ≤ 1048576 ∧ ∀ e ∈ es.take k, 0 ≤ e.rl ∧ e.rl ≤ 65536) (fun _ i => es.length - (intOf i).toNat)
      case atStart => exact ⟨0, 0, Nat.zero_le _, rfl, rfl, rfl, by omega, fun e he => by simp at he⟩
      case round =>
        obtain ⟨k2, m2, hk2, rfl, rfl, hmm, hmm2, hall⟩ := hrel
        have HM := show Hid _ from hmm
        have HA := show Hid _ from hall
        clear hmm hall
        by_cases hlt2 : k2 < es.length
        · obtain ⟨b, off, rfl, _, _, c2⟩ := hr k2 hlt2
          have HT : Hid (rlSum (es.take (k2 + 1)) = rlSum (es.take k2) + (at_ es k2).rl.toNat) := by rw [take_snoc hlt2, rlSum_snoc]; exact rfl
          have HT2 : Hid (es.take (k2 + 1) = es.take k2 ++ [at_ es k2]) := take_snoc hlt2
          have h1 := (HI.out _ (at_mem hlt2)).2
          generalize at_ es k2 = x at c2 HT HT2 h1
          clear hr
          obtain ⟨h1a, h1b⟩ := h1
          by_cases hneg : x.rl < 0
          · go_wp2_with fail
            go_ret
            exact ⟨rfl, Below.refl _ _⟩
          · by_cases hbig : 65536 < x.rl
            · go_wp2_with fail
              go_ret
              exact ⟨rfl, Below.refl _ _⟩
            · obtain ⟨rl, hrl⟩ : ∃ rl : Nat, x.rl = rl := ⟨x.rl.toNat, by omega⟩
              have HRL := show Hid _ from hrl
              rw [hrl] at c2 hneg hbig h1a h1b
              have hrb : rl ≤ 65536 := by omega
              clear hrl hneg hbig h1a h1b
              by_cases hs : m2 + rl ≤ 1048576
              · go_wp2_with fail
                go_round
                case rel =>
                  refine ⟨k2 + 1, m2 + rl, by omega, by go_num, by go_num, by have := HM.out; have := HT.out; have := HRL.out; omega, hs, fun e he => ?_⟩
                  rw [HT2.out, List.mem_append] at he
                  rcases he with he | he
                  · exact HA.out e he
                  · rw [List.mem_singleton] at he; rw [he, HRL.out]; omega
                case measure => simp [intOf]; omega
              · go_wp2_with fail
                go_ret
                exact ⟨rfl, Below.refl _ _⟩
        · have hke : es.take k2 = es := List.take_of_length_le (by omega)
          have H2 : Hid (rlSum es ≤ 1048576) := by have := HM.out; rw [hke] at this; show _ ≤ _; omega
          have H3 : Hid (∀ e ∈ es, 0 ≤ e.rl ∧ e.rl ≤ 65536) := by have := HA.out; rw [hke] at this; exact this
          clear hke HM HA hmm2
          by_cases hro : room < 0
          · go_wp2_with fail
            go_ret
            exact ⟨rfl, Below.refl _ _⟩
          go_wp2_with fail
          refine (form_any a cap es w hr hn2).mono ?_
          rintro e w1 ⟨bb, rfl, hB1, hF⟩
          have HB1 : Hid (Below w.heap.size w w1) := hB1
          cases bb
          · clear hB1
            go_wp2_with fail
            go_ret
            exact ⟨rfl, HB1.out⟩
          have HW : Hid (WF es) := wf_ofB H1.out HK.out H3.out H2.out (hF rfl)
          have HE : Hid (∀ e ∈ es, -9223372036854775808 ≤ e.en ∧ e.en ≤ 9223372036854775807) := fun e he => (HI.out e he).1
          have HR1 : Hid (EReads w1 a es) := hr.below hB1
          clear hB1 hF H1 H2 H3 HK HI hr
          go_wp2_with fail
          refine (dropped_any room na a cap es w1 HR1.out HW.out (by omega) hr1).mono ?_
          rintro e w2 ⟨k, rfl, hD, hB2⟩
          have HD : Hid (Runs es room na 0 k) := hD.runs HW.out.sorted
          have HB2 : Hid (Below w.heap.size w w2) := HB1.out.trans (hB2.mono HB1.out.size)
          have HR2 : Hid (EReads w2 a es) := EReads.below HR1.out hB2
          have hkn := HD.out.len
          clear hD hB2
          go_wp2_with fail
          refine (costFrom_any a cap es k w2 HR2.out HW.out hkn).mono ?_
          rintro e w3 ⟨rfl, hB3⟩
          have HB3 : Hid (Below w.heap.size w w3) := HB2.out.trans (hB3.mono HB2.out.size)
          have HR3 : Hid (EReads w3 a es) := EReads.below HR2.out hB3
          clear hB3
          go_wp2_with fail
          refine (build_anyB room a cap es w3 HR3.out HW.out HE.out).mono ?_
          rintro e w4 ⟨T, A, X, tp, rfl, hS, hBk, hB4⟩
          have HS4 := show Hid _ from hS
          have HBk := show Hid _ from hBk
          have HB4 := show Hid _ from hB4
          clear hS hBk hB4
          go_wp2_with fail
          refine (zgo_any w4 w3.heap.size es room na T _ A X tp 0 HS4.out HBk.out HW.out (Nat.zero_le _) ha0 ha1).mono ?_
          rintro e w5 ⟨rfl, x, hx1, hx2, hx3⟩
          have hxk : x = k := hx1.unique HD.out
          subst x
          have HX1 : Hid (Runs es room na 0 k) := hx1
          have HX2 : Hid (St w5.heap es room T w3.heap.size A X tp k) := hx2
          have HB5 : Hid (Below w3.heap.size w3 w5) := HB4.out.trans hx3
          have HR5 : Hid (EReads w5 a es) := EReads.below HR3.out HB5.out
          clear hx1 hx2 hx3 HB4 HS4
          go_wp2_with fail
          refine (books_any w5 es room T _ A X tp k a cap HR5.out HX2.out HW.out hkn).mono ?_
          rintro e w6 ⟨rfl, hB6⟩
          have HX6 : Hid (St w6.heap es room T w3.heap.size A X tp k) := HX2.out.below hB6 (Nat.le_refl _)
          have HR6 : Hid (EReads w6 a es) := EReads.below HR5.out hB6
          have HB6 : Hid (Below w3.heap.size w3 w6) := HB5.out.trans (hB6.mono HB5.out.size)
          clear hB6
          go_wp2_with fail
          refine (zgo_any w6 w3.heap.size es room na T _ A X tp k HX6.out HBk.out HW.out hkn ha0 ha1).mono ?_
          rintro e w7 ⟨rfl, y, hy1, hy2, hy3⟩
          have hyk : y = k := HX1.out.again hy1
          subst y
          have HX7 : Hid (St w7.heap es room T w3.heap.size A X tp k) := hy2
          have HB7 : Hid (Below w3.heap.size w3 w7) := HB6.out.trans hy3
          have HR7 : Hid (EReads w7 a es) := EReads.below HR3.out HB7.out
          clear hy1 hy2 hy3
          go_wp2_with fail
          refine (books_any w7 es room T _ A X tp k a cap HR7.out HX7.out HW.out hkn).mono ?_
          rintro e w8 ⟨rfl, hB8⟩
          have HB8 : Hid (Below w.heap.size w w8) := HB3.out.trans ((HB7.out.trans (hB8.mono HB7.out.size)).mono HB3.out.size)
          clear hB8
          go_wp2_with fail
          go_ret
          exact ⟨rfl, HB8.out⟩

end Go.Proofs.Qxb6615209a
