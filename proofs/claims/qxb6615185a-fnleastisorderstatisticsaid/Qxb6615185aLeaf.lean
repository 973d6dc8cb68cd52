/-
  THE WALKS OF THE LEAVES: zzInfB1, zzBytes.., zzCountB1, ..
-/
import Derived.Test.Qxb6615185aRows
import Derived.Test.Qxb6615185aPlain
import Derived.WalkKit
import Derived.ProofKit
import Derived.Laws.FloatArith
namespace Go.Proofs.Qxb6615185a
open Go.RowKit

theorem fmt64 : FloatKind.f64.format = Ieee.double := rfl

/-- The cells behind a slice's address read as the words 'fs'. -/
def Reads (w : World) (a : Option Addr) (fs : List Nat) : Prop :=
  ∀ i, i < fs.length → ∃ b off, a = some ⟨b, off, none⟩ ∧ w.cell? ⟨b, off + i, none⟩ = some (.float .f64 (fs.getD i 0))

theorem mul_run {x y : Nat} (hx : Fl.fin x) (hy : Fl.fin y) (t : TypeId) (w : World) :
    (binOp .mul t (.float .f64 x) (.float .f64 y)).run Try.prog w = .ok (.float .f64 (Fl.fmul x y)) w :=
  run_float_arith w .mul t .f64 x y _ (Fl.fmul_eq hx hy).1

theorem inf_any (w : World) : Calls Try.prog 7 #[] w fun e w' => e = .returned (.float .f64 9218868437227405312) ∧ w' = w := by
  have hm : ∀ w : World, (binOp .mul 23 (.float .f64 9218868437227405311) (.float .f64 4611686018427387904)).run Try.prog w = .ok (.float .f64 9218868437227405312) w :=
    fun w => run_float_arith w .mul 23 .f64 _ _ _ (by decide +kernel)
  go_enter Try.func7, Try.ntmps7
  go_wp2
  go_ret
  exact ⟨rfl, rfl⟩

theorem bytes_any (a : Option Addr) (n cap : Nat) (t s p r g : Nat) (w : World) (hn : (n : Int) ≤ 1048576) :
    Calls Try.prog 12 #[.slice a n cap, .float .f64 t, .float .f64 s, .float .f64 p, .float .f64 r, .float .f64 g] w fun e w' => e = .returned (.bool true) ∧ w' = w := by
  go_enter Try.func12, Try.ntmps12
  go_wp2
  go_ret
  exact ⟨rfl, rfl⟩

theorem bytes_no (a : Option Addr) (n cap : Nat) (t s p r g : Nat) (w : World) (hn : (1048576 : Int) < (n : Int)) :
    Calls Try.prog 12 #[.slice a n cap, .float .f64 t, .float .f64 s, .float .f64 p, .float .f64 r, .float .f64 g] w fun e w' => e = .returned (.bool false) ∧ w' = w := by
  go_enter Try.func12, Try.ntmps12
  go_wp2
  go_ret
  exact ⟨rfl, rfl⟩

theorem ord_ge {x y : Nat} (hx : Fl.ok x) (hy : Fl.ok y) : (FloatKind.f64.format.order x y == some .gt || FloatKind.f64.format.order x y == some .eq) = decide (Fl.key y ≤ Fl.key x) := by
  rw [fmt64, Fl.order_key hx hy, Fl.cmp_int]
  by_cases h1 : Fl.key x < Fl.key y
  · rw [if_pos h1, decide_eq_false (by omega)]; rfl
  · rw [if_neg h1, decide_eq_true (by omega)]; split <;> rfl
theorem ord_le {x y : Nat} (hx : Fl.ok x) (hy : Fl.ok y) : (FloatKind.f64.format.order x y == some .lt || FloatKind.f64.format.order x y == some .eq) = decide (Fl.key x ≤ Fl.key y) := by
  rw [fmt64, Fl.order_key hx hy, Fl.cmp_int]
  by_cases h1 : Fl.key x < Fl.key y
  · rw [if_pos h1, decide_eq_true (by omega)]; rfl
  · rw [if_neg h1]
    by_cases h2 : Fl.key x = Fl.key y
    · rw [if_pos h2, decide_eq_true (by omega)]; rfl
    · rw [if_neg h2, decide_eq_false (by omega)]; rfl
theorem ord_lt {x y : Nat} (hx : Fl.ok x) (hy : Fl.ok y) : (FloatKind.f64.format.order x y == some .lt) = decide (Fl.key x < Fl.key y) := by
  rw [fmt64, Fl.order_key hx hy, Fl.cmp_int]
  by_cases h1 : Fl.key x < Fl.key y
  · rw [if_pos h1, decide_eq_true h1]; rfl
  · rw [if_neg h1, decide_eq_false h1]; split <;> rfl
theorem ord_gt {x y : Nat} (hx : Fl.ok x) (hy : Fl.ok y) : (FloatKind.f64.format.order x y == some .gt) = decide (Fl.key y < Fl.key x) := by
  rw [fmt64, Fl.order_key hx hy, Fl.cmp_int]
  by_cases h1 : Fl.key x < Fl.key y
  · rw [if_pos h1, decide_eq_false (by omega)]; rfl
  · rw [if_neg h1]
    by_cases h2 : Fl.key x = Fl.key y
    · rw [if_pos h2, decide_eq_false (by omega)]; rfl
    · rw [if_neg h2, decide_eq_true (by omega)]; rfl
theorem ord_eq {x y : Nat} (hx : Fl.ok x) (hy : Fl.ok y) : (FloatKind.f64.format.order x y == some .eq) = decide (Fl.key x = Fl.key y) := by
  rw [fmt64, Fl.order_key hx hy, Fl.cmp_int]
  by_cases h1 : Fl.key x < Fl.key y
  · rw [if_pos h1, decide_eq_false (by omega)]; rfl
  · rw [if_neg h1]
    by_cases h2 : Fl.key x = Fl.key y
    · rw [if_pos h2, decide_eq_true h2]; rfl
    · rw [if_neg h2, decide_eq_false h2]; rfl

theorem ret_int {k : IntKind} {a b : Int} (h : a = b) : Ending.returned (.int k a) = .returned (.int k b) := by rw [h]
theorem ret_flt {k : FloatKind} {a b : Nat} (h : a = b) : Ending.returned (.float k a) = .returned (.float k b) := by rw [h]

theorem getD_mem {fs : List Nat} {k : Nat} (h : k < fs.length) : fs.getD k 0 ∈ fs := by
  rw [List.getD_eq_getElem?_getD, List.getElem?_eq_getElem h]; exact List.getElem_mem h
theorem take_snoc {fs : List Nat} {k : Nat} (h : k < fs.length) : fs.take (k + 1) = fs.take k ++ [fs.getD k 0] := by
  rw [List.take_succ_eq_append_getElem h, List.getD_eq_getElem?_getD, List.getElem?_eq_getElem h]; rfl

set_option maxHeartbeats 400000 in
theorem count_any (a : Option Addr) (cap : Nat) (fs : List Nat) (x t : Nat) (w : World) (hr : Reads w a fs) (hn : fs.length ≤ 65536)
    (hx : Fl.fin x) (ht : Fl.ok t) (hf : ∀ f ∈ fs, f < Fl.inf) :
    Calls Try.prog 11 #[.slice a fs.length cap, .float .f64 x, .float .f64 t] w fun e w' => e = .returned (.int .i64 (Fl.cnt t x fs)) ∧ w' = w := by
  go_enter Try.func11, Try.ntmps11
  go_wp2
  go_loop [7, 8] (fun c i => ∃ k : Nat, k ≤ fs.length ∧ i = .int .i64 k ∧ c = .int .i64 (Fl.cnt t x (fs.take k))) (fun _ i => fs.length - (intOf i).toNat)
  case atStart => exact ⟨0, Nat.zero_le _, rfl, rfl⟩
  case round =>
    obtain ⟨k, hk, rfl, rfl⟩ := hrel
    have hc1 := Fl.cnt_le t x (fs.take k)
    have hl : (fs.take k).length ≤ k := List.length_take_le _ _
    by_cases hlt : k < fs.length
    · obtain ⟨b, off, rfl, hcell⟩ := hr k hlt
      have hmem := getD_mem hlt
      have HS : Hid (Fl.cnt t x (fs.take (k + 1)) = Fl.cnt t x (fs.take k) + (if Fl.hit t x (fs.getD k 0) then 1 else 0)) := by
        rw [take_snoc hlt, Fl.cnt_snoc]; exact rfl
      generalize fs.getD k 0 = f at hcell hmem HS
      have hfe := Fl.fmul_eq hx (Fl.fin_pos (hf f hmem))
      have hm := fun t w => mul_run hx (Fl.fin_pos (hf f hmem)) t w
      have ho := ord_ge hfe.2 ht
      by_cases hh : Fl.key t ≤ Fl.key (Fl.fmul x f)
      · rw [decide_eq_true hh] at ho
        have e1 : Fl.hit t x f = true := decide_eq_true hh
        rw [e1] at HS
        clear e1 hh hfe hr hf
        go_wp2
        go_round
        case rel => exact ⟨k + 1, by omega, by go_num, by rw [HS.out]; go_num⟩
        case measure => simp [intOf]; omega
      · rw [decide_eq_false hh] at ho
        have e1 : Fl.hit t x f = false := decide_eq_false hh
        rw [e1] at HS
        clear e1 hh hfe hr hf
        go_wp2
        go_round
        case rel => exact ⟨k + 1, by omega, by go_num, by rw [HS.out]; go_num⟩
        case measure => simp [intOf]; omega
    · go_wp2
      go_ret
      exact ⟨ret_int (by rw [List.take_of_length_le (by omega)]), rfl⟩

end Go.Proofs.Qxb6615185a
