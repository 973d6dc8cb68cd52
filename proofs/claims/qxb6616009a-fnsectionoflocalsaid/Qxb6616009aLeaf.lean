/-
  The leaves of FnSectionOfLocal: the byte bound, the makers of a place, sectionOf.
-/
import Derived.Test.Qxb6616009aRows
import Derived.WalkKit
import Derived.ProofKit
import Derived.Below
namespace Go.Proofs.Qxb6616009a
open Go.RowKit

/-! ### Blocks and cells -/
theorem cell_of {w : World} {b o : Nat} {cs : Array Value} {t : TypeId} {fr : Nat × Nat} {v : Value} (h : w.heap[b]? = some (.cells cs t fr)) (hv : cs[o]? = some v) : w.cell? ⟨b, o, none⟩ = some v := by
  simp [World.cell?, h, hv]
theorem free_of {w : World} {b o : Nat} {cs : Array Value} {t : TypeId} (h : w.heap[b]? = some (.cells cs t (0, 0))) : w.frozen? ⟨b, o, none⟩ = false := by
  simp [World.frozen?, h]
theorem lt_of {w : World} {b : Nat} {o : Obj} (h : w.heap[b]? = some o) : b < w.heap.size := by
  rcases Nat.lt_or_ge b w.heap.size with h' | h'
  · exact h'
  · rw [Array.getElem?_eq_none h'] at h; cases h
theorem set_same {w : World} {b o : Nat} {cs : Array Value} {t : TypeId} {fr : Nat × Nat} {v : Value} (h : w.heap[b]? = some (.cells cs t fr)) :
    (w.setCell ⟨b, o, none⟩ v).heap[b]? = some (.cells (cs.setIfInBounds o v) t fr) := by
  have hl := lt_of h
  have he : w.heap[b] = .cells cs t fr := by rw [Array.getElem?_eq_getElem hl] at h; exact Option.some.inj h
  simp [World.setCell, Array.getElem_modify, hl, he]
theorem set_other {w : World} {b c o : Nat} {v : Value} (h : c ≠ b) : (w.setCell ⟨b, o, none⟩ v).heap[c]? = w.heap[c]? := Below.heap_setCell w _ v c h

/-! ### A place -/
/-- The struct valuePlace over the record at block r. -/
def plcC (r : Nat) : Array Value := #[.nilIface, .pointer (some ⟨r, 0, none⟩), .map none, .string ⟨#[]⟩, .pointer none, .int .i64 0]

def recC (x : Nat) : Array Value := #[.int .i64 0, .int .i64 0, .map none, .slice none 0 0, .pointer none, .pointer (some ⟨x, 0, none⟩), .pointer none]
def txtC (hd : Option Addr) : Array Value := #[.pointer hd, .pointer none, .pointer none, .pointer none, .pointer none, .slice none 0 0]

/-- The record at block r: its text has a header, or none. Its blocks lie at lo and above. -/
def Rec (h : Array Obj) (lo r : Nat) (b : Bool) : Prop :=
  ∃ x hd, lo ≤ r ∧ lo ≤ x ∧ h[r]? = some (.cells (recC x) 68 (0, 0)) ∧ h[x]? = some (.cells (txtC hd) 62 (0, 0)) ∧ hd.isNone = !b

theorem Rec.block {h h' : Array Obj} {lo r : Nat} {b : Bool} (hr : Rec h lo r b) (hb : ∀ c o, lo ≤ c → h[c]? = some o → h'[c]? = some o) : Rec h' lo r b := by
  obtain ⟨x, hd, l1, l2, h1, h3, h5⟩ := hr
  exact ⟨x, hd, l1, l2, hb _ _ l1 h1, hb _ _ l2 h3, h5⟩
theorem Rec.mono {h : Array Obj} {lo lo' r : Nat} {b : Bool} (hr : Rec h lo r b) (hl : lo' ≤ lo) : Rec h lo' r b := by
  obtain ⟨x, hd, l1, l2, h⟩ := hr
  exact ⟨x, hd, Nat.le_trans hl l1, Nat.le_trans hl l2, h⟩
theorem Rec.below {w w' : World} {S lo r : Nat} {b : Bool} (h : Rec w.heap lo r b) (hb : Below S w w') (hS : w.heap.size ≤ S) : Rec w'.heap lo r b :=
  h.block fun c o _ hc => by rw [hb.block c (Nat.lt_of_lt_of_le (lt_of hc) hS)]; exact hc

theorem new_at {w : World} {n : Nat} {o : Obj} (h : w.heap.size = n) : (w.alloc o).heap[n]? = some o := by rw [← h]; exact heap_alloc_new w o

theorem with_any (w : World) :
    Calls Try.prog 22 #[] w fun e w' => ∃ r, e = .returned (.agg (plcC r)) ∧ Rec w'.heap w.heap.size r true ∧ Below w.heap.size w w' := by
  go_enter Try.func22, Try.ntmps22
  go_wp2_with fail
  refine bodyPost_ret (v := .agg (plcC (w.heap.size + 1 + 1 + 1))) (by simp [results, Try.results22, go_sem, plcC]) rfl ⟨_, rfl, ⟨w.heap.size + 1 + 1, some ⟨w.heap.size + 1, 0, none⟩, by omega, by omega, ?_, ?_, rfl⟩, ?_⟩
  · exact new_at (by simp)
  · rw [Below.heap_alloc _ _ _ (by simp)]
    exact new_at (by simp)
  · exact ((((Below.refl _ _).alloc (Nat.le_refl _) _).alloc (by simp) _).alloc (by simp; omega) _).alloc (by simp; omega) _

theorem without_any (w : World) :
    Calls Try.prog 23 #[] w fun e w' => ∃ r, e = .returned (.agg (plcC r)) ∧ Rec w'.heap w.heap.size r false ∧ Below w.heap.size w w' := by
  go_enter Try.func23, Try.ntmps23
  go_wp2_with fail
  refine bodyPost_ret (v := .agg (plcC (w.heap.size + 1 + 1))) (by simp [results, Try.results23, go_sem, plcC]) rfl ⟨_, rfl, ⟨w.heap.size + 1, none, by omega, by omega, ?_, ?_, rfl⟩, ?_⟩
  · exact new_at (by simp)
  · rw [Below.heap_alloc _ _ _ (by simp)]
    exact new_at (by simp)
  · exact (((Below.refl _ _).alloc (Nat.le_refl _) _).alloc (by simp) _).alloc (by simp; omega) _

/-- A bool is answered, the world stands. -/
def Some1 (w : World) (e : Ending) (w' : World) : Prop := ∃ b : Bool, e = .returned (.bool b) ∧ w' = w

theorem bytes_any (a c : Option Addr) (n k m j : Nat) (v : Int) (w : World) (h1 : n ≤ 9223372036854775807) (h2 : m ≤ 9223372036854775807) :
    Calls Try.prog 6 #[.slice a n k, .slice c m j, .int .i64 v] w fun e w' => Some1 w e w' := by
  by_cases q1 : n ≤ 1048576
  · by_cases q2 : m ≤ 1048576
    · by_cases q3 : n + m ≤ 1048576
      · go_enter Try.func6, Try.ntmps6
        go_wp2
        go_ret
        exact ⟨true, rfl, rfl⟩
      · go_enter Try.func6, Try.ntmps6
        go_wp2
        go_ret
        exact ⟨false, rfl, rfl⟩
    · go_enter Try.func6, Try.ntmps6
      go_wp2
      go_ret
      exact ⟨false, rfl, rfl⟩
  · go_enter Try.func6, Try.ntmps6
    go_wp2
    go_ret
    exact ⟨false, rfl, rfl⟩

/-! ### sectionOf -/
theorem ret_int {k : IntKind} {a b : Int} (h : a = b) : Ending.returned (.int k a) = .returned (.int k b) := by rw [h]
def at_ (hs : List Bool) (i : Nat) : Bool := hs.getD i false

/-- The nearest place at or above, with a header, or the root. -/
def sec (hs : List Bool) : Nat → Nat
  | 0 => 0
  | k + 1 => if at_ hs (k + 1) then k + 1 else sec hs k

def Places (w : World) (lo P : Nat) (hs : List Bool) (n : Nat) : Prop :=
  ∀ i, i < n → ∃ r, w.cell? ⟨P, i * 6 + 1, none⟩ = some (.pointer (some ⟨r, 0, none⟩)) ∧ Rec w.heap lo r (decide (0 < i) && at_ hs i)

set_option maxRecDepth 100000 in
theorem section_any (P lo n cap : Nat) (hs : List Bool) (at0 : Nat) (w : World) (hp : Places w lo P hs n) (h0 : at0 < n) (hn : n ≤ 1048576) :
    Calls Try.prog 21 #[.slice (some ⟨P, 0, none⟩) n cap, .int .i64 at0] w fun e w' => e = .returned (.int .i64 (sec hs at0)) ∧ w' = w := by
  go_enter Try.func21, Try.ntmps21
  go_wp2
  go_loop [1] (fun i => ∃ k : Nat, k ≤ at0 ∧ i = .int .i64 k ∧ sec hs k = sec hs at0) (fun i => (intOf i).toNat)
  case atStart => exact ⟨at0, Nat.le_refl _, rfl, rfl⟩
  case round =>
    obtain ⟨k, hk, rfl, hs0⟩ := hrel
    have HS := show Hid _ from hs0
    clear hs0
    cases k with
    | zero =>
      go_wp2
      go_ret
      exact ⟨by rw [← HS.out]; rfl, rfl⟩
    | succ k =>
      obtain ⟨r, c1, x, hd, _, _, hr, hx, hh⟩ := hp (k + 1) (by omega)
      have c2 : w.cell? ⟨r, 5, none⟩ = some (.pointer (some ⟨x, 0, none⟩)) := cell_of hr rfl
      have c3 : w.cell? ⟨x, 0, none⟩ = some (.pointer hd) := cell_of hx rfl
      have d1 : decide ((0 : Int) < ((k + 1 : Nat) : Int)) = true := by simp
      clear hr hx hp
      cases hb : at_ hs (k + 1) with
      | true =>
        rw [hb] at hh
        have hh' : hd.isNone = false := by simpa using hh
        have e1 : sec hs (k + 1) = k + 1 := by unfold sec; rw [hb]; rfl
        clear hh
        go_wp2
        go_ret
        exact ⟨ret_int (by rw [← HS.out, e1]; rfl), rfl⟩
      | false =>
        rw [hb] at hh
        have hh' : hd.isNone = true := by simpa using hh
        have e1 : sec hs (k + 1) = sec hs k := by rw [show sec hs (k + 1) = if at_ hs (k + 1) then k + 1 else sec hs k from rfl, hb]; rfl
        clear hh
        go_wp2
        go_round
        case rel => exact ⟨k, by omega, rfl, by rw [← HS.out, e1]⟩
        case measure => simp [intOf]

theorem zsection_any (P lo n cap : Nat) (hs : List Bool) (at0 : Nat) (w : World) (hp : Places w lo P hs n) (h0 : at0 < n) (hn : n ≤ 1048576) :
    Calls Try.prog 7 #[.slice (some ⟨P, 0, none⟩) n cap, .int .i64 at0] w fun e w' => e = .returned (.int .i64 (sec hs at0)) ∧ w' = w := by
  go_enter Try.func7, Try.ntmps7
  go_wp2_with fail
  refine (section_any P lo n cap hs at0 w hp h0 hn).mono ?_
  rintro e w' ⟨rfl, hw'⟩; subst w'
  go_wp2_with fail
  go_ret
  exact ⟨rfl, rfl⟩

/-! ### The plain law -/
theorem sec_le (hs : List Bool) (k : Nat) : sec hs k ≤ k := by
  induction k with
  | zero => exact Nat.le_refl _
  | succ k ih => unfold sec; split <;> omega
theorem sec_has {hs : List Bool} {k : Nat} (h : sec hs k ≠ 0) : at_ hs (sec hs k) = true := by
  induction k with
  | zero => exact absurd rfl h
  | succ k ih =>
    rw [show sec hs (k + 1) = if at_ hs (k + 1) then k + 1 else sec hs k from rfl] at h ⊢
    split at h
    · rename_i hc; rw [if_pos hc]; exact hc
    · rename_i hc; rw [if_neg hc]; exact ih h
theorem sec_none {hs : List Bool} {k j : Nat} (h1 : sec hs k < j) (h2 : j ≤ k) : at_ hs j = false := by
  induction k with
  | zero => omega
  | succ k ih =>
    rw [show sec hs (k + 1) = if at_ hs (k + 1) then k + 1 else sec hs k from rfl] at h1
    split at h1
    · omega
    · rename_i hc
      rcases Nat.lt_or_eq_of_le h2 with h | h
      · exact ih h1 (by omega)
      · subst h; simpa using hc
theorem sec_local {hs gs : List Bool} {k : Nat} (h : k < hs.length) : sec (hs ++ gs) k = sec hs k := by
  induction k with
  | zero => rfl
  | succ k ih =>
    have : at_ (hs ++ gs) (k + 1) = at_ hs (k + 1) := by unfold at_; simp [List.getD_eq_getElem?_getD, List.getElem?_append_left h]
    rw [show sec (hs ++ gs) (k + 1) = if at_ (hs ++ gs) (k + 1) then k + 1 else sec (hs ++ gs) k from rfl, this, ih (by omega)]
    rfl

end Go.Proofs.Qxb6616009a
