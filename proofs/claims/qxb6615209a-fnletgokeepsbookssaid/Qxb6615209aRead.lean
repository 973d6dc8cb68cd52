/-
  THE FUNCTIONS THAT ONLY READ THE ENTRIES: zzBytes.., letGoCostFrom, letGoDropped.
-/
import Derived.Test.Qxb6615209aMap
import Derived.Test.Qxb6615209aPlain
namespace Go.Proofs.Qxb6615209a
open Go.RowKit

/-- The cells behind a slice's address read as the entries 'es'. -/
def EReads (w : World) (a : Option Addr) (es : List Ent) : Prop :=
  ∀ i, i < es.length → ∃ b off, a = some ⟨b, off, none⟩ ∧ w.cell? ⟨b, off + i * 3, none⟩ = some (.string (at_ es i).key) ∧
    w.cell? ⟨b, off + i * 3 + 1, none⟩ = some (.int .i64 (at_ es i).en) ∧ w.cell? ⟨b, off + i * 3 + 2, none⟩ = some (.int .i64 (at_ es i).rl)

theorem ret_int {k : IntKind} {a b : Int} (h : a = b) : Ending.returned (.int k a) = .returned (.int k b) := by rw [h]

/-- A bool is answered, the world stands; if it is true, P. -/
def Answers (w : World) (P : Prop) (e : Ending) (w' : World) : Prop := ∃ b, e = .returned (.bool b) ∧ w' = w ∧ (b = true → P)

def BytesOk (es : List Ent) : Prop := es.length ≤ 1048576 ∧ ∀ e ∈ es, e.key.size ≤ 1048576

set_option maxHeartbeats 1000000 in
theorem bytes5_any (room : Int) (na nb : Int) (a : Option Addr) (cap : Nat) (es : List Ent) (w : World) (hr : EReads w a es) (hlen : es.length ≤ 9223372036854775807) :
    Calls Try.prog 5 #[.int .i64 room, .int .i64 na, .int .i64 nb, .slice a es.length cap] w fun e w' => Answers w (BytesOk es) e w' := by
  by_cases hn : es.length ≤ 1048576
  · go_enter Try.func5, Try.ntmps5
    go_wp2
    go_loop [9, 10] (fun z i => ∃ k m : Nat, k ≤ es.length ∧ i = .int .i64 k ∧ z = .int .i64 m ∧ m ≤ 1048576 ∧ ∀ e ∈ es.take k, e.key.size ≤ 1048576) (fun _ i => es.length - (intOf i).toNat)
    case atStart => exact ⟨0, es.length, Nat.zero_le _, rfl, by go_num, hn, fun e he => by simp at he⟩
    case round =>
      obtain ⟨k, m, hk, rfl, rfl, hm, hall⟩ := hrel
      have HA : Hid (∀ e ∈ es.take k, e.key.size ≤ 1048576) := hall
      clear hall
      by_cases hlt : k < es.length
      · obtain ⟨b, off, rfl, c0, _, _⟩ := hr k hlt
        have HT := show Hid _ from take_snoc hlt
        generalize at_ es k = x at c0 HT
        clear hr
        by_cases h1 : x.key.size ≤ 1048576
        · by_cases h2 : m + x.key.size ≤ 1048576
          · go_wp2
            go_round
            case rel =>
              refine ⟨k + 1, m + x.key.size, by omega, by go_num, by go_num, h2, fun e he => ?_⟩
              rw [HT.out, List.mem_append] at he
              rcases he with he | he
              · exact HA.out e he
              · rw [List.mem_singleton] at he; rw [he]; exact h1
            case measure => simp [intOf]; omega
          · go_wp2
            go_ret
            exact ⟨_, rfl, rfl, fun h => by cases h⟩
        · go_wp2
          go_ret
          exact ⟨_, rfl, rfl, fun h => by cases h⟩
      · go_wp2
        go_ret
        refine ⟨_, rfl, rfl, fun _ => ⟨hn, fun e he => HA.out e ?_⟩⟩
        rw [List.take_of_length_le (by omega)]; exact he
  · go_enter Try.func5, Try.ntmps5
    go_wp2
    go_ret
    exact ⟨_, rfl, rfl, fun h => by cases h⟩

set_option maxHeartbeats 1000000 in
theorem bytes13_any (room : Int) (na : Int) (a : Option Addr) (cap : Nat) (es : List Ent) (w : World) (hr : EReads w a es) (hlen : es.length ≤ 9223372036854775807) :
    Calls Try.prog 13 #[.int .i64 room, .int .i64 na, .slice a es.length cap] w fun e w' => Answers w (BytesOk es) e w' := by
  by_cases hn : es.length ≤ 1048576
  · go_enter Try.func13, Try.ntmps13
    go_wp2
    go_loop [7, 8] (fun z i => ∃ k m : Nat, k ≤ es.length ∧ i = .int .i64 k ∧ z = .int .i64 m ∧ m ≤ 1048576 ∧ ∀ e ∈ es.take k, e.key.size ≤ 1048576) (fun _ i => es.length - (intOf i).toNat)
    case atStart => exact ⟨0, es.length, Nat.zero_le _, rfl, by go_num, hn, fun e he => by simp at he⟩
    case round =>
      obtain ⟨k, m, hk, rfl, rfl, hm, hall⟩ := hrel
      have HA : Hid (∀ e ∈ es.take k, e.key.size ≤ 1048576) := hall
      clear hall
      by_cases hlt : k < es.length
      · obtain ⟨b, off, rfl, c0, _, _⟩ := hr k hlt
        have HT := show Hid _ from take_snoc hlt
        generalize at_ es k = x at c0 HT
        clear hr
        by_cases h1 : x.key.size ≤ 1048576
        · by_cases h2 : m + x.key.size ≤ 1048576
          · go_wp2
            go_round
            case rel =>
              refine ⟨k + 1, m + x.key.size, by omega, by go_num, by go_num, h2, fun e he => ?_⟩
              rw [HT.out, List.mem_append] at he
              rcases he with he | he
              · exact HA.out e he
              · rw [List.mem_singleton] at he; rw [he]; exact h1
            case measure => simp [intOf]; omega
          · go_wp2
            go_ret
            exact ⟨_, rfl, rfl, fun h => by cases h⟩
        · go_wp2
          go_ret
          exact ⟨_, rfl, rfl, fun h => by cases h⟩
      · go_wp2
        go_ret
        refine ⟨_, rfl, rfl, fun _ => ⟨hn, fun e he => HA.out e ?_⟩⟩
        rw [List.take_of_length_le (by omega)]; exact he
  · go_enter Try.func13, Try.ntmps13
    go_wp2
    go_ret
    exact ⟨_, rfl, rfl, fun h => by cases h⟩


set_option maxHeartbeats 1000000 in
theorem costFrom_any (a : Option Addr) (cap : Nat) (es : List Ent) (k0 : Nat) (w : World) (hr : EReads w a es) (hw : WF es) (hk0 : k0 ≤ es.length) :
    Calls Try.prog 8 #[.slice a es.length cap, .int .i64 k0] w fun e w' => e = .returned (.int .i64 (costFrom es k0)) ∧ Below w.heap.size w w' := by
  have hlen := hw.len
  go_enter Try.func8, Try.ntmps8
  go_wp2
  go_loopw [5, 6] (fun s i wr => ∃ k c : Nat, k0 ≤ k ∧ k ≤ es.length ∧ i = .int .i64 k ∧ s = .int .i64 c ∧ c + costFrom es k = costFrom es k0 ∧ Below w.heap.size w wr) (fun _ i _ => es.length - (intOf i).toNat)
  case atStart => exact ⟨k0, 0, Nat.le_refl _, hk0, rfl, rfl, by omega, Below.refl _ _⟩
  case round =>
    obtain ⟨k, c, hk1, hk, rfl, rfl, hc, hb⟩ := hrel
    have HC : Hid (c + costFrom es k = costFrom es k0) := hc
    have HB : Hid (Below w.heap.size w wr) := hb
    have hcb : c ≤ 16777216 := by have := hw.cost_le k0; omega
    clear hc hb
    by_cases hlt : k < es.length
    · obtain ⟨b, off, rfl, c0, c1, c2⟩ := hr k hlt
      have hbl : b < w.heap.size := World.block_lt_of_cell? w _ c0
      rw [← HB.out.cell (p := ⟨b, off + k * 3, none⟩) hbl] at c0
      rw [← HB.out.cell (p := ⟨b, off + k * 3 + 1, none⟩) hbl] at c1
      rw [← HB.out.cell (p := ⟨b, off + k * 3 + 2, none⟩) hbl] at c2
      have HS := show Hid _ from costFrom_step hlt
      have hm := at_mem hlt
      have h1 := hw.key _ hm
      have h2 := hw.rl _ hm
      obtain ⟨rl, hrl⟩ : ∃ rl : Nat, (at_ es k).rl = rl := ⟨(at_ es k).rl.toNat, by omega⟩
      have HCo : Hid ((at_ es k).cost = 256 + (at_ es k).key.size + rl) := by unfold Ent.cost; rw [hrl]; exact rfl
      rw [hrl] at c2 h2
      have hrl2 : rl ≤ 65536 := by omega
      clear hrl h2 hm
      generalize at_ es k = x at c0 c1 c2 HS h1 HCo
      clear hr hw
      go_wp2_with (go_at_call 15; refine (cost_any x.key x.en rl _ h1 hrl2).mono ?_; rintro e w1 ⟨rfl, hb1⟩)
      go_roundw
      case rel => exact ⟨k + 1, c + (256 + x.key.size + rl), by omega, by omega, by go_num, by go_num, by have := HC.out; have := HS.out; have := HCo.out; omega, HB.out.trans (hb1.mono HB.out.size)⟩
      case measure => simp [intOf]; omega
    · go_wp2
      go_ret
      exact ⟨ret_int (by have := HC.out; rw [costFrom_end (by omega)] at this; omega), HB.out⟩

theorem EReads.below {w w' : World} {a : Option Addr} {es : List Ent} (h : EReads w a es) (hb : Below w.heap.size w w') : EReads w' a es := by
  intro i hi
  obtain ⟨b, off, h1, c0, c1, c2⟩ := h i hi
  have hbl : b < w.heap.size := World.block_lt_of_cell? w _ c0
  refine ⟨b, off, h1, ?_, ?_, ?_⟩
  · rw [hb.cell (p := ⟨b, off + i * 3, none⟩) hbl]; exact c0
  · rw [hb.cell (p := ⟨b, off + i * 3 + 1, none⟩) hbl]; exact c1
  · rw [hb.cell (p := ⟨b, off + i * 3 + 2, none⟩) hbl]; exact c2

set_option maxHeartbeats 2000000 in
theorem dropped_any (room now : Int) (a : Option Addr) (cap : Nat) (es : List Ent) (w : World) (hr : EReads w a es) (hw : WF es) (hr0 : 0 ≤ room) (hr1 : room ≤ 9223372036854775807) :
    Calls Try.prog 7 #[.int .i64 room, .int .i64 now, .slice a es.length cap] w fun e w' => ∃ k : Nat, e = .returned (.int .i64 k) ∧ Drop es room now k ∧ Below w.heap.size w w' := by
  have hlen := hw.len
  go_enter Try.func7, Try.ntmps7
  go_wp2
  go_loop [7, 8] (fun x i => ∃ k : Nat, k ≤ es.length ∧ i = .int .i64 k ∧ x = .int .i64 (cntB now (es.take k))) (fun _ i => es.length - (intOf i).toNat)
  case atStart => exact ⟨0, Nat.zero_le _, rfl, rfl⟩
  case round =>
    obtain ⟨k, hk, rfl, rfl⟩ := hrel
    have hc1 := cntB_le now (es.take k)
    have hl : (es.take k).length ≤ k := List.length_take_le _ _
    by_cases hlt : k < es.length
    · obtain ⟨b, off, rfl, _, c1, _⟩ := hr k hlt
      have HS : Hid (cntB now (es.take (k + 1)) = cntB now (es.take k) + (if (at_ es k).en < now then 1 else 0)) := by
        rw [take_snoc hlt, cntB_snoc]; exact rfl
      generalize at_ es k = x at c1 HS
      clear hr hw
      by_cases hx : x.en < now
      · rw [if_pos hx] at HS
        go_wp2
        go_round
        case rel => exact ⟨k + 1, by omega, by go_num, by rw [HS.out]; go_num⟩
        case measure => simp [intOf]; omega
      · rw [if_neg hx] at HS
        go_wp2
        go_round
        case rel => exact ⟨k + 1, by omega, by go_num, by rw [HS.out]; go_num⟩
        case measure => simp [intOf]; omega
    · have hke : es.take k = es := List.take_of_length_le (by omega)
      rw [hke]
      clear hke hc1 hl
      have hcn := cntB_le now es
      go_wp2
      go_loopw [9, 10] (fun f c wr => ∃ k : Nat, k ≤ es.length ∧ f = .int .i64 k ∧ c = .int .i64 (costFrom es k) ∧ (costFrom es k : Int) ≤ room ∧ Below w.heap.size w wr) (fun f _ _ => (intOf f).toNat)
      case atStart => exact ⟨es.length, Nat.le_refl _, rfl, by rw [costFrom_end (Nat.le_refl _)]; rfl, by rw [costFrom_end (Nat.le_refl _)]; exact hr0, Below.refl _ _⟩
      case round =>
        obtain ⟨f, hf, rfl, rfl, hfr, hb⟩ := hrel
        have HB : Hid (Below w.heap.size w wr) := hb
        have hcb := hw.cost_le f
        clear hb
        cases f with
        | zero =>
          have HD : Hid (Drop es room now (if 0 < cntB now es then cntB now es else 0)) := ⟨⟨0, Nat.zero_le _, hfr, Or.inl rfl, rfl⟩⟩
          by_cases hx : 0 < cntB now es
          · rw [if_pos hx] at HD
            go_wp2
            go_ret
            exact ⟨_, rfl, HD.out, HB.out⟩
          · rw [if_neg hx] at HD
            go_wp2
            go_ret
            exact ⟨0, rfl, HD.out, HB.out⟩
        | succ g =>
          obtain ⟨b, off, rfl, c0, c1, c2⟩ := hr g (by omega)
          have hbl : b < w.heap.size := World.block_lt_of_cell? w _ c0
          rw [← HB.out.cell (p := ⟨b, off + g * 3, none⟩) hbl] at c0
          rw [← HB.out.cell (p := ⟨b, off + g * 3 + 1, none⟩) hbl] at c1
          rw [← HB.out.cell (p := ⟨b, off + g * 3 + 2, none⟩) hbl] at c2
          have HS := show Hid _ from costFrom_step (es := es) (k := g) (by omega)
          have hm := at_mem (es := es) (i := g) (by omega)
          have h1 := hw.key _ hm
          have h2 := hw.rl _ hm
          obtain ⟨rl, hrl⟩ : ∃ rl : Nat, (at_ es g).rl = rl := ⟨(at_ es g).rl.toNat, by omega⟩
          have HCo : Hid ((at_ es g).cost = 256 + (at_ es g).key.size + rl) := by unfold Ent.cost; rw [hrl]; exact rfl
          rw [hrl] at c2 h2
          have hrl2 : rl ≤ 65536 := by omega
          clear hrl h2 hm
          generalize at_ es g = x at c0 c1 c2 HS h1 HCo
          have hcg := hw.cost_le g
          have hge : costFrom es g = costFrom es (g + 1) + (256 + x.key.size + rl) := by have := HS.out; have := HCo.out; omega
          have HGE := show Hid _ from hge
          clear hge hr hw
          have hbb := HB.out.size
          by_cases hx : ((costFrom es (g + 1) + (256 + x.key.size + rl) : Nat) : Int) ≤ room
          · go_wp2_with fail
            refine (cost_any x.key x.en rl _ h1 hrl2).mono ?_
            rintro e w1 ⟨rfl, hb1⟩
            have c0' := (hb1.cell (p := ⟨b, off + g * 3, none⟩) (by show b < _; omega)).trans c0
            have c1' := (hb1.cell (p := ⟨b, off + g * 3 + 1, none⟩) (by show b < _; omega)).trans c1
            have c2' := (hb1.cell (p := ⟨b, off + g * 3 + 2, none⟩) (by show b < _; omega)).trans c2
            have HB1 : Hid (Below w.heap.size w w1) := HB.out.trans (hb1.mono HB.out.size)
            clear hb1 c0 c1 c2
            go_wp2_with fail
            refine (cost_any x.key x.en rl _ h1 hrl2).mono ?_
            rintro e w2 ⟨rfl, hb2⟩
            have HB2 : Hid (Below w.heap.size w w2) := HB1.out.trans (hb2.mono HB1.out.size)
            clear hb2
            go_wp2_with fail
            go_roundw
            case rel => exact ⟨g, by omega, by go_num, by rw [HGE.out]; go_num, by rw [HGE.out]; exact hx, HB2.out⟩
            case measure => simp [intOf]
          · have HD : Hid (Drop es room now (if g + 1 < cntB now es then cntB now es else g + 1)) :=
              ⟨⟨g + 1, hf, hfr, Or.inr (by rw [Nat.add_sub_cancel, HGE.out]; omega), rfl⟩⟩
            by_cases hxc : g + 1 < cntB now es
            · rw [if_pos hxc] at HD
              go_wp2_with fail
              refine (cost_any x.key x.en rl _ h1 hrl2).mono ?_
              rintro e w1 ⟨rfl, hb1⟩
              have HB1 : Hid (Below w.heap.size w w1) := HB.out.trans (hb1.mono HB.out.size)
              clear hb1
              go_wp2_with fail
              go_ret
              exact ⟨_, rfl, HD.out, HB1.out⟩
            · rw [if_neg hxc] at HD
              go_wp2_with fail
              refine (cost_any x.key x.en rl _ h1 hrl2).mono ?_
              rintro e w1 ⟨rfl, hb1⟩
              have HB1 : Hid (Below w.heap.size w w1) := HB.out.trans (hb1.mono HB.out.size)
              clear hb1
              go_wp2_with fail
              go_ret
              exact ⟨g + 1, rfl, HD.out, HB1.out⟩

end Go.Proofs.Qxb6615209a
