/-
  After; the small makers and readers of package sip.
-/
import Derived.Test.Qxb6615209aTime
import Derived.Deep.QuietTactic
import Derived.BigQuiet
namespace Go.Proofs.Qxb6615209a
open Go.RowKit

/-- A moment d nanoseconds behind the zero time, as time.Time lays it. -/
def wallOf (d : Int) : Int := d % 1000000000
def extOf (d : Int) : Int := d / 1000000000
theorem wallOf_bd (d : Int) : 0 ≤ wallOf d ∧ wallOf d < 1000000000 := by unfold wallOf; omega
theorem after_iff (a b : Int) : (extOf b < extOf a ∨ (extOf a = extOf b ∧ wallOf b < wallOf a)) ↔ b < a := by unfold extOf wallOf; omega

theorem ret_bool {a b : Bool} (h : a = b) : Ending.returned (.bool a) = .returned (.bool b) := by rw [h]

theorem add_any (d : Int) (w : World) (hd0 : -9223372036854775808 ≤ d) (hd1 : d ≤ 9223372036854775807) :
    Calls Try.prog 19 #[.agg #[.int .u64 0, .int .i64 0, .pointer none], .int .i64 d] w fun e w' => e = .returned (.agg #[.int .u64 (wallOf d), .int .i64 (extOf d), .pointer none]) ∧ Below w.heap.size w w' :=
  add_core d _ _ w rfl rfl hd0 hd1

theorem and_mono2 (m n : Int) (h0 : 0 ≤ m) (h1 : m < 1073741824) (k0 : 0 ≤ n) (k1 : n < 1073741824) : bits .and .u64 (bits .and .u64 m n) 9223372036854775808 = 0 := by
  have e : bits .and .u64 m n = ((m.toNat &&& n.toNat : Nat) : Int) := u64_and m n h0 (by omega) k0 (by omega)
  have l : m.toNat &&& n.toNat ≤ m.toNat := Nat.and_le_left
  rw [e]
  exact and_mono _ (by omega) (by omega)

set_option maxHeartbeats 1000000 in
theorem after_core (wa ea wb eb : Int) (w : World) (h0 : 0 ≤ wa) (h1 : wa < 1000000000) (k0 : 0 ≤ wb) (k1 : wb < 1000000000) :
    Calls Try.prog 22 #[.agg #[.int .u64 wa, .int .i64 ea, .pointer none], .agg #[.int .u64 wb, .int .i64 eb, .pointer none]] w
      fun e w' => e = .returned (.bool (decide (eb < ea ∨ (ea = eb ∧ wb < wa)))) ∧ Below w.heap.size w w' := by
  have hm := and_mono2 wa wb h0 (by omega) k0 (by omega)
  have hB : ∀ x y : Obj, Below w.heap.size w ((w.alloc x).alloc y) := fun x y => ((Below.refl _ _).alloc (Nat.le_refl _) _).alloc (by simp) _
  by_cases hlt : eb < ea
  · rw [decide_eq_true (Or.inl hlt)]
    go_enter Try.func22, Try.ntmps22
    go_wp2_with fail
    refine (sec_any w.heap.size 0 wa ea _ (by omega) (by omega) (by simp) (by simp)).mono ?_
    rintro e w' ⟨rfl, rfl⟩
    go_wp2_with fail
    refine (sec_any (w.heap.size + 1) 0 wb eb _ (by omega) (by omega) (by simp) (by simp)).mono ?_
    rintro e w' ⟨rfl, rfl⟩
    go_wp2_with fail
    go_ret
    exact ⟨rfl, hB _ _⟩
  · by_cases heq : ea = eb
    · subst heq
      have hb : (ea == ea) = true := beq_iff_eq.2 rfl
      have e1 : (decide (ea < ea ∨ (ea = ea ∧ wb < wa))) = decide (wb < wa) := by simp
      rw [e1]
      clear e1
      go_enter Try.func22, Try.ntmps22
      go_wp2_with fail
      refine (sec_any w.heap.size 0 wa ea _ (by omega) (by omega) (by simp) (by simp)).mono ?_
      rintro e w' ⟨rfl, rfl⟩
      go_wp2_with fail
      refine (sec_any (w.heap.size + 1) 0 wb ea _ (by omega) (by omega) (by simp) (by simp)).mono ?_
      rintro e w' ⟨rfl, rfl⟩
      go_wp2_with fail
      refine (nsec_any w.heap.size 0 wa _ (by omega) (by omega) (by simp)).mono ?_
      rintro e w' ⟨rfl, rfl⟩
      go_wp2_with fail
      refine (nsec_any (w.heap.size + 1) 0 wb _ (by omega) (by omega) (by simp)).mono ?_
      rintro e w' ⟨rfl, rfl⟩
      go_wp2_with fail
      go_ret
      exact ⟨rfl, hB _ _⟩
    · have hb : (ea == eb) = false := beq_eq_false_iff_ne.2 heq
      rw [decide_eq_false (by omega)]
      go_enter Try.func22, Try.ntmps22
      go_wp2_with fail
      refine (sec_any w.heap.size 0 wa ea _ (by omega) (by omega) (by simp) (by simp)).mono ?_
      rintro e w' ⟨rfl, rfl⟩
      go_wp2_with fail
      refine (sec_any (w.heap.size + 1) 0 wb eb _ (by omega) (by omega) (by simp) (by simp)).mono ?_
      rintro e w' ⟨rfl, rfl⟩
      go_wp2_with fail
      go_ret
      exact ⟨ret_bool (decide_eq_false (by omega)), hB _ _⟩

theorem after_any (a b : Int) (w : World) :
    Calls Try.prog 22 #[.agg #[.int .u64 (wallOf a), .int .i64 (extOf a), .pointer none], .agg #[.int .u64 (wallOf b), .int .i64 (extOf b), .pointer none]] w
      fun e w' => e = .returned (.bool (decide (b < a))) ∧ Below w.heap.size w w' := by
  have ha := wallOf_bd a
  have hb := wallOf_bd b
  refine (after_core (wallOf a) (extOf a) (wallOf b) (extOf b) w ha.1 ha.2 hb.1 hb.2).mono ?_
  rintro e w' ⟨rfl, h⟩
  refine ⟨?_, h⟩
  rw [decide_eq_decide.2 (after_iff a b)]

/-- letGoCost -/
theorem cost_any (key : ByteArray) (endNs : Int) (rl : Nat) (w : World) (h1 : key.size ≤ 1048576) (h2 : rl ≤ 65536) :
    Calls Try.prog 15 #[.agg #[.string key, .int .i64 endNs, .int .i64 rl]] w fun e w' => e = .returned (.int .i64 ((256 + key.size + rl : Nat) : Int)) ∧ Below w.heap.size w w' := by
  go_enter Try.func15, Try.ntmps15
  go_wp2
  go_ret
  exact ⟨by go_num, (Below.refl _ _).alloc (Nat.le_refl _) _⟩

/-- (*ServerTx).cost -/
theorem txcost_any (b : Nat) (key : ByteArray) (ra : Option Addr) (rl rc : Nat) (w : World) (h1 : key.size ≤ 1048576) (h2 : rc ≤ 65536)
    (c5 : w.cell? ⟨b, 5, none⟩ = some (.string key)) (c9 : w.cell? ⟨b, 9, none⟩ = some (.slice ra rl rc)) :
    Calls Try.prog 23 #[.pointer (some ⟨b, 0, none⟩)] w fun e w' => e = .returned (.int .i64 ((256 + key.size + rc : Nat) : Int)) ∧ ∃ n, w' = w.drewN n := by
  go_enter Try.func23, Try.ntmps23
  go_wp2
  go_quiet (fail)
  go_wp2
  go_ret
  exact ⟨by go_num, _, rfl⟩

theorem aging_any (b : Nat) (v : Value) (w : World) (hv : ∃ a l c, v = .slice a l c) (h : w.cell? ⟨b, 8, none⟩ = some v) :
    Calls Try.prog 11 #[.pointer (some ⟨b, 0, none⟩)] w fun e w' => e = .returned v ∧ w' = w := by
  obtain ⟨a, l, c, rfl⟩ := hv
  go_enter Try.func11, Try.ntmps11
  go_wp2
  go_ret
  exact ⟨rfl, rfl⟩

theorem size_any (b : Nat) (n : Int) (w : World) (h : w.cell? ⟨b, 9, none⟩ = some (.int .i64 n)) :
    Calls Try.prog 12 #[.pointer (some ⟨b, 0, none⟩)] w fun e w' => e = .returned (.int .i64 n) ∧ w' = w := by
  go_enter Try.func12, Try.ntmps12
  go_wp2
  go_ret
  exact ⟨rfl, rfl⟩

theorem servers_any (b : Nat) (r : Option Nat) (w : World) (h : w.cell? ⟨b, 7, none⟩ = some (.map r)) :
    Calls Try.prog 20 #[.pointer (some ⟨b, 0, none⟩)] w fun e w' => e = .returned (.map r) ∧ w' = w := by
  go_enter Try.func20, Try.ntmps20
  go_wp2
  go_ret
  exact ⟨rfl, rfl⟩

theorem key_any (b : Nat) (s : ByteArray) (w : World) (h : w.cell? ⟨b, 5, none⟩ = some (.string s)) :
    Calls Try.prog 21 #[.pointer (some ⟨b, 0, none⟩)] w fun e w' => e = .returned (.string s) ∧ w' = w := by
  go_enter Try.func21, Try.ntmps21
  go_wp2
  go_ret
  exact ⟨rfl, rfl⟩

/-- The cells of a server transaction, and of a transport, as the makers lay them. -/
def txCells (key : ByteArray) (d : Int) (ra : Option Addr) (rl rc : Nat) : Array Value :=
  #[.pointer none, .int .u64 0, .int .u64 0, .pointer none, .int .u16 0, .string key, .int .u64 (wallOf d), .int .i64 (extOf d), .pointer none, .slice ra rl rc]

theorem newTx_any (key : ByteArray) (d : Int) (ra : Option Addr) (rl rc : Nat) (w : World) (hd0 : -9223372036854775808 ≤ d) (hd1 : d ≤ 9223372036854775807) :
    Calls Try.prog 16 #[.string key, .int .i64 d, .slice ra rl rc] w fun e w' => ∃ b, e = .returned (.pointer (some ⟨b, 0, none⟩)) ∧ w.heap.size ≤ b ∧ b < w'.heap.size ∧
      w'.heap[b]? = some (.cells (txCells key d ra rl rc) 77 (0, 0)) ∧ Below w.heap.size w w' := by
  go_enter Try.func16, Try.ntmps16
  go_wp2_with fail
  refine (add_any d _ hd0 hd1).mono ?_
  rintro e w1 ⟨rfl, hb⟩
  have HB : Hid (Below w.heap.size w w1) := hb
  have HS := hb.size
  clear hb
  go_wp2_with fail
  go_ret
  exact ⟨w1.heap.size, rfl, HS, by simp, by simpa [txCells] using heap_alloc_new w1 (.cells (txCells key d ra rl rc) 77), HB.out.alloc HS _⟩

def trCells (room size : Int) (M : Nat) (ag : Value) : Array Value :=
  #[.pointer none, .string ⟨#[]⟩, .int .i64 0, .int .i64 room, .int .i32 0, .int .u32 0, .bool false, .map (some M), ag, .int .i64 size, .map none, .int .i64 0, .int .i64 0, .int .i64 0, .int .i64 0]

theorem newTr_any (room size : Int) (M : Nat) (aa : Option Addr) (al ac : Nat) (w : World) :
    Calls Try.prog 17 #[.int .i64 room, .int .i64 size, .map (some M), .slice aa al ac] w fun e w' => e = .returned (.pointer (some ⟨w.heap.size, 0, none⟩)) ∧
      w' = w.alloc (.cells (trCells room size M (.slice aa al ac)) 62) := by
  go_enter Try.func17, Try.ntmps17
  go_wp2
  go_ret
  exact ⟨rfl, rfl⟩

end Go.Proofs.Qxb6615209a
