/-
  letGoBooksAgree answers true of a store in the state St.
-/
import Derived.Test.Qxb6615209aPtr
namespace Go.Proofs.Qxb6615209a
open Go.RowKit

theorem zero36 (w : World) : (zeroValue 36).run Try.prog w = .ok (.pointer none) w := by
  have hi : (Try.prog.info? 36).map (·.zero) = some (some (.pointer none)) := by kernel_rfl
  cases h : Try.prog.info? 36 with
  | none => rw [h] at hi; cases hi
  | some i =>
    rw [h] at hi
    simp at hi
    simp [zeroValue, typeInfo, h, hi]

def TruePost (w : World) (e : Ending) (w' : World) : Prop := e = .returned (.bool true) ∧ Below w.heap.size w w'

set_option maxHeartbeats 16000000 in
set_option maxRecDepth 100000 in
theorem books_any (w : World) (es : List Ent) (room : Int) (T M A X : Nat) (tp : Nat → Nat) (k : Nat) (a : Option Addr) (cap : Nat) (hr : EReads w a es) (hS : St w.heap es room T M A X tp k) (hw : WF es) (hk : k ≤ es.length) :
    Calls Try.prog 14 #[.pointer (some ⟨T, 0, none⟩), .slice (some ⟨X, 0, none⟩) es.length es.length, .slice a es.length cap, .int .i64 k, .int .i64 (costFrom es k)] w fun e w' => TruePost w e w' := by
  have hptr := run_neq_tx
  have hlen := hw.len
  obtain ⟨q, hq⟩ : ∃ q, es.length - k = q := ⟨_, rfl⟩
  have q1 : es.length ≤ k + q := by omega
  have q2 : k + q ≤ es.length := by omega
  have HW : Hid (WF es) := hw
  have HS : Hid (St w.heap es room T M A X tp k) := hS
  obtain ⟨a1, d1, hT1, hac1⟩ := hS.tr
  rw [hq] at hT1 hac1
  have hM := hS.mp
  rw [hq] at hM
  have HM := show Hid _ from hM
  have g1 : w.cell? ⟨T, 8, none⟩ = some (.slice a1 q d1) := cell_of hT1 rfl
  have g2 : w.cell? ⟨T, 7, none⟩ = some (.map (some M)) := cell_of hT1 rfl
  have g3 : w.cell? ⟨T, 9, none⟩ = some (.int .i64 (costFrom es k)) := cell_of hT1 rfl
  have hlm : ∀ ty, (Builtin.len_ #[41] ty #[.map (some M)]).run Try.prog w = .ok (.int .i64 q) w := fun ty => by
    rw [run_len_map Try.underlying41 hM, mapL_size]
  have hAC1 := show Hid _ from hac1
  have HQ := show Hid _ from hq
  have HR : Hid (EReads w a es) := hr
  have hne : ((q : Int) != (es.length : Int) - (k : Int)) = false := by simp; omega
  clear hS hw hac1 hT1 hq hM hr
  go_enter Try.func14, Try.ntmps14
  go_wp2_with fail
  refine (aging_any T (.slice a1 q d1) w ⟨_, _, _, rfl⟩ g1).mono ?_
  rintro e w' ⟨rfl, hw'⟩; subst w'
  go_wp2_with fail
  refine (servers_any T (some M) w g2).mono ?_
  rintro e w' ⟨rfl, hw'⟩; subst w'
  go_wp2_with fail
  refine (size_any T (costFrom es k) w g3).mono ?_
  rintro e w' ⟨rfl, hw'⟩; subst w'
  clear g1 g2 g3
  go_wp2_with fail
  go_loop [14, 15, 16] (fun i _ _ => ∃ j : Nat, j ≤ k ∧ i = .int .i64 j) (fun i _ _ => k - (intOf i).toNat)
  case atStart => exact ⟨0, Nat.zero_le _, rfl⟩
  case round =>
    obtain ⟨j, hj, rfl⟩ := hrel
    by_cases hjk : j < k
    · have hjn : j < es.length := by omega
      have c1 : w.cell? ⟨X, j, none⟩ = some (.pointer (some ⟨tp j, 0, none⟩)) := by
        have : rowV tp 0 es.length j = .pointer (some ⟨tp j, 0, none⟩) := by unfold rowV; rw [if_pos (by omega)]; rfl
        rw [← this]; exact cell_of HS.out.tx (rowL_get hjn)
      have c2 : w.cell? ⟨tp j, 5, none⟩ = some (.string ⟨#[]⟩) := by
        obtain ⟨ra, rl, h⟩ := HS.out.ob j hjn
        unfold keyAt at h
        rw [if_pos hjk] at h
        exact cell_of h rfl
      obtain ⟨b, off, rfl, c3, _, _⟩ := HR.out j hjn
      have hlk := run_lookup_miss (P := Try.prog) (c := true) Try.underlying41 Try.underlying9 HM.out (find_out tp HW.out.dist hjk q2) (zero36 w)
      go_wp2_with fail
      refine (key_any (tp j) _ w c2).mono ?_
      rintro e w' ⟨rfl, hw'⟩; subst w'
      go_wp2_with fail
      go_round
      case rel => exact ⟨j + 1, by omega, by go_num⟩
      case measure => simp [intOf]; omega
    · go_wp2_with fail
      go_loopw [17] (fun i wr => ∃ j nd : Nat, k ≤ j ∧ j ≤ es.length ∧ i = .int .i64 j ∧ wr = w.drewN nd) (fun i _ => es.length - (intOf i).toNat)
      case atStart => exact ⟨k, 0, Nat.le_refl _, hk, rfl, rfl⟩
      case round =>
        obtain ⟨i, nd, hki, hin, rfl, rfl⟩ := hrel
        by_cases hlt : i < es.length
        · obtain ⟨e1, e2⟩ := hAC1.out (by omega)
          subst a1 d1
          have c1 : w.cell? ⟨X, i, none⟩ = some (.pointer (some ⟨tp i, 0, none⟩)) := by
            have : rowV tp 0 es.length i = .pointer (some ⟨tp i, 0, none⟩) := by unfold rowV; rw [if_pos (by omega)]; rfl
            rw [← this]; exact cell_of HS.out.tx (rowL_get hlt)
          have c4 : w.cell? ⟨A, i, none⟩ = some (.pointer (some ⟨tp i, 0, none⟩)) := by
            have : rowV tp k es.length i = .pointer (some ⟨tp i, 0, none⟩) := by unfold rowV; rw [if_pos (by omega)]; rfl
            rw [← this]; exact cell_of HS.out.ag (rowL_get hlt)
          have c2 : w.cell? ⟨tp i, 5, none⟩ = some (.string (at_ es i).key) := by
            obtain ⟨ra, rl, h⟩ := HS.out.ob i hlt
            unfold keyAt at h
            rw [if_neg (by omega)] at h
            exact cell_of h rfl
          obtain ⟨b, off, rfl, c3, _, _⟩ := HR.out i hlt
          have hlk : ∀ n, (Instr.lookup 41 (.map (some M)) (.string (at_ es i).key) false).run Try.prog (w.drewN n) = .ok (.pointer (some ⟨tp i, 0, none⟩)) (w.drewN n) := fun n =>
            run_lookup_hit (P := Try.prog) (c := false) Try.underlying41 Try.underlying9 HM.out (find_in tp HW.out.dist hki (by omega) q2)
          have b0 : (0 : Int) ≤ (i : Int) - (k : Int) := by omega
          have b1 : (i : Int) - (k : Int) < (q : Int) := by omega
          have hwr : IntKind.i64.wrap ((i : Int) - (k : Int)) = (i : Int) - (k : Int) := by rw [IntKind.wrap_i64]; omega
          have htn : ((i : Int) - (k : Int)).toNat = i - k := by omega
          go_wp2_with fail
          go_quiet (first | (go_at_call 21; exact (key_any (tp i) (at_ es i).key _ (by simpa using c2)).mono fun _ _ ⟨he, hm⟩ => ⟨he, _, hm⟩))
          go_wp2_with fail
          go_roundw
          case rel => exact ⟨i + 1, _, by omega, by omega, by go_num, rfl⟩
          case measure => simp [intOf]; omega
        · go_wp2_with fail
          go_ret
          exact ⟨rfl, below_drew (Below.refl _ _) _⟩

end Go.Proofs.Qxb6615209a
