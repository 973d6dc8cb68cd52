/-
  letGoWellFormed.
-/
import Derived.Test.Qxb6615209aRead
namespace Go.Proofs.Qxb6615209a
open Go.RowKit

/-- What 'seen' holds behind k rounds. -/
def seenE (es : List Ent) (i : Nat) : MapEntry := { key := .string (at_ es i).key, val := .bool true, born := i }
def seen (es : List Ent) (k : Nat) : List MapEntry := (List.range k).map (seenE es)

theorem seen_push (es : List Ent) (k : Nat) : (seen es k).toArray.push (seenE es k) = (seen es (k + 1)).toArray := by
  unfold seen; rw [List.range_succ, List.map_append]; simp

structure FormTo (es : List Ent) (k : Nat) : Prop where
  ne : ∀ i, i < k → (at_ es i).key ≠ ByteArray.empty
  dist : ∀ i j, i < j → j < k → (at_ es i).key ≠ (at_ es j).key
  sorted : ∀ i, i + 1 < k → (at_ es i).en ≤ (at_ es (i + 1)).en

def FAns (w : World) (P : Prop) (e : Ending) (w' : World) : Prop := ∃ b, e = .returned (.bool b) ∧ Below w.heap.size w w' ∧ (b = true → P)

theorem seen_miss {es : List Ent} {k : Nat} (h : ∀ i, i < k → (at_ es i).key ≠ (at_ es k).key) : Instr.findNow .string (.string (at_ es k).key) (seen es k).toArray.toList 0 = some none := by
  refine findNow_none ?_ 0
  intro e he
  have he' : e ∈ (List.range k).map (seenE es) := by simpa [seen] using he
  obtain ⟨i, hi, rfl⟩ := List.mem_map.1 he'
  refine ⟨_, rfl, ?_⟩
  rw [Bool.eq_false_iff]
  intro hc
  exact h i (by simpa using hi) ((MapKept.bytes_beq _ _).1 hc).symm

theorem seen_hit {es : List Ent} {k : Nat} (h : ¬ ∀ i, i < k → (at_ es i).key ≠ (at_ es k).key) : ∃ i, Instr.findNow .string (.string (at_ es k).key) (seen es k).toArray.toList 0 = some (some (i, .bool true)) := by
  have gen : ∀ (l : List Nat) (o : Nat), (∃ i ∈ l, (at_ es i).key = (at_ es k).key) → ∃ i, Instr.findNow .string (.string (at_ es k).key) (l.map (seenE es)) o = some (some (i, .bool true)) := by
    intro l
    induction l with
    | nil => rintro o ⟨i, hi, _⟩; simp at hi
    | cons x l ih =>
      rintro o ⟨i, hi, he⟩
      by_cases hx : (at_ es x).key = (at_ es k).key
      · have hs : ((at_ es k).key == (at_ es k).key) = true := (MapKept.bytes_beq _ _).2 rfl
        exact ⟨o, by simp [List.map_cons, Instr.findNow, seenE, Instr.sameNow, hx, hs]⟩
      · have hs : ((at_ es k).key == (at_ es x).key) = false := by
          rw [Bool.eq_false_iff]; intro hc; exact hx ((MapKept.bytes_beq _ _).1 hc).symm
        obtain ⟨j, hj⟩ := ih (o + 1) ⟨i, by
          rcases List.mem_cons.1 hi with h' | h'
          · subst h'; exact absurd he hx
          · exact h', he⟩
        refine ⟨j, ?_⟩
        rw [List.map_cons, Instr.findNow]
        simp only [seenE, Instr.sameNow, hs]
        exact hj
  have ⟨i, hi⟩ : ∃ i, i < k ∧ (at_ es i).key = (at_ es k).key := by
    refine Classical.byContradiction fun hc => h fun i hi he => hc ⟨i, hi, he⟩
  exact gen (List.range k) 0 ⟨i, by simpa using hi.1, hi.2⟩

theorem zero4 (w : World) : (zeroValue 4).run Try.prog w = .ok (.bool false) w := by
  have hi : (Try.prog.info? 4).map (·.zero) = some (some (.bool false)) := by kernel_rfl
  cases h : Try.prog.info? 4 with
  | none => rw [h] at hi; cases hi
  | some i =>
    have hz : i.zero = some (.bool false) := by simpa [h] using hi
    simp [zeroValue, typeInfo, h, hz]

theorem below_drew {B : Nat} {a w : World} (h : Below B a w) (n : Nat) : Below B a (w.drewN n) := h.trans ⟨rfl, rfl, rfl, Nat.le_refl _, fun _ _ => rfl⟩

set_option maxHeartbeats 4000000 in
set_option maxRecDepth 100000 in
theorem form_any (a : Option Addr) (cap : Nat) (es : List Ent) (w : World) (hr : EReads w a es) (hlen : es.length ≤ 32768) :
    Calls Try.prog 6 #[.slice a es.length cap] w fun e w' => FAns w (FormTo es es.length) e w' := by
  have hmm := @run_makeMap Try.prog
  go_enter Try.func6, Try.ntmps6
  go_wp2
  go_loopw [4, 5] (fun i _ wr => ∃ k : Nat, k ≤ es.length ∧ i = .int .i64 k ∧ FormTo es k ∧ wr.heap[w.heap.size]? = some (.map (seen es k).toArray k) ∧ Below w.heap.size w wr) (fun i _ _ => es.length - (intOf i).toNat)
  case atStart => exact ⟨0, Nat.zero_le _, rfl, ⟨fun i h => by omega, fun i j h1 h2 => by omega, fun i h => by omega⟩, by simpa [seen] using heap_alloc_new w (.map #[] 0), (Below.refl _ _).alloc (Nat.le_refl _) _⟩
  case round =>
    obtain ⟨k, hk, rfl, hF, hM, hB⟩ := hrel
    have HF : Hid (FormTo es k) := hF
    have HB : Hid (Below w.heap.size w wr) := hB
    have HM : Hid (wr.heap[w.heap.size]? = some (.map (seen es k).toArray k)) := hM
    clear hF hM hB
    by_cases hlt : k < es.length
    · obtain ⟨b, off, rfl, c0, c1, _⟩ := hr k hlt
      have hbl : b < w.heap.size := World.block_lt_of_cell? w _ c0
      have c0' := (HB.out.cell (p := ⟨b, off + k * 3, none⟩) hbl).trans c0
      clear c0
      by_cases hemp : (at_ es k).key = ByteArray.empty
      · have h1 : (at_ es k).key.toList = [] := by rw [hemp, ByteArray.toList_eq]; rfl
        have h2 : (at_ es k).key.toList.isEmpty = true := by rw [h1]; rfl
        clear hemp c1 hr
        go_wp2_with fail
        go_ret
        exact ⟨_, rfl, HB.out, fun h => by cases h⟩
      · have h1 : ¬ (at_ es k).key.toList = [] := fun h => hemp (by
          have e : (at_ es k).key.toList = ByteArray.empty.toList := by rw [h, ByteArray.toList_eq]; rfl
          rw [ByteArray.toList_eq, ByteArray.toList_eq] at e
          exact ByteArray.ext (Array.toList_inj.1 e))
        have h2 : (at_ es k).key.toList.isEmpty = false := by
          cases hl : (at_ es k).key.toList with
          | nil => exact absurd hl h1
          | cons x l => rfl
        have HE : Hid ((at_ es k).key ≠ ByteArray.empty) := hemp
        clear hemp
        by_cases hd : ∀ i, i < k → (at_ es i).key ≠ (at_ es k).key
        · have hlk := run_lookup_miss (P := Try.prog) (c := false) Try.underlying39 Try.underlying9 HM.out (seen_miss hd) (zero4 wr)
          have hup := run_store_new (P := Try.prog) (v := .bool true) Try.underlying39 Try.underlying9 HM.out (seen_miss hd)
          simp only [Bool.false_eq_true, if_false] at hlk
          have hM2 : (putB wr w.heap.size (.map ((seen es k).toArray.push (seenE es k)) (k + 1))).heap[w.heap.size]? = some (.map (seen es (k + 1)).toArray (k + 1)) := by rw [← seen_push]; exact putB_heap HM.out
          have hB2 : Below w.heap.size w (putB wr w.heap.size (.map ((seen es k).toArray.push (seenE es k)) (k + 1))) := putB_below HB.out (Nat.le_refl _)
          change _ = Result.ok () (putB wr w.heap.size (.map ((seen es k).toArray.push (seenE es k)) (k + 1))) at hup
          generalize putB wr w.heap.size (.map ((seen es k).toArray.push (seenE es k)) (k + 1)) = W2 at hup hM2 hB2
          have HM2 := show Hid _ from hM2
          have HB2 := show Hid _ from hB2
          have HD := show Hid _ from hd
          have c1' := (hB2.cell (p := ⟨b, off + k * 3 + 1, none⟩) hbl).trans c1
          clear hM2 hB2 hd c1
          cases k with
          | zero =>
            clear hr
            simp only [Nat.zero_mul, Nat.add_zero] at c0' c1'
            go_wp2_with fail
            go_quiet (fail)
            go_wp2_with fail
            go_roundw
            case rel =>
              refine ⟨1, by omega, by go_num, ⟨fun i hi => ?_, fun i j h1 h2 => by omega, fun i h => by omega⟩, HM2.out, below_drew HB2.out _⟩
              have : i = 0 := by omega
              subst this; exact HE.out
            case measure => simp [intOf]; omega
          | succ j =>
            obtain ⟨b', off', hab, _, d1, _⟩ := hr j (by omega)
            obtain ⟨rfl, rfl⟩ : b = b' ∧ off = off' := by simpa using hab
            have d1' := (HB2.out.cell (p := ⟨b, off + j * 3 + 1, none⟩) hbl).trans d1
            clear hab d1 hr
            by_cases hlt2 : (at_ es (j + 1)).en < (at_ es j).en
            · go_wp2_with fail
              go_quiet (fail)
              go_wp2_with fail
              go_ret
              exact ⟨_, rfl, below_drew HB2.out _, fun h => by cases h⟩
            · go_wp2_with fail
              go_quiet (fail)
              go_wp2_with fail
              go_roundw
              case rel =>
                refine ⟨j + 1 + 1, by omega, by go_num, ⟨fun i hi => ?_, fun i m h1 h2 => ?_, fun i h => ?_⟩, HM2.out, below_drew HB2.out _⟩
                · rcases Nat.lt_or_eq_of_le (Nat.le_of_lt_succ hi) with h | h
                  · exact HF.out.ne i h
                  · subst h; exact HE.out
                · rcases Nat.lt_or_eq_of_le (Nat.le_of_lt_succ h2) with h | h
                  · exact HF.out.dist i m h1 h
                  · subst h; exact HD.out i h1
                · rcases Nat.lt_or_eq_of_le (Nat.le_of_lt_succ h) with h' | h'
                  · exact HF.out.sorted i h'
                  · obtain rfl : i = j := by omega
                    omega
              case measure => simp [intOf]; omega
        · obtain ⟨i, hi⟩ := seen_hit hd
          have hlk := run_lookup_hit (P := Try.prog) (c := false) Try.underlying39 Try.underlying9 HM.out hi
          simp only [Bool.false_eq_true, if_false] at hlk
          clear hd hi c1 hr
          go_wp2_with fail
          go_ret
          exact ⟨_, rfl, HB.out, fun h => by cases h⟩
    · go_wp2
      go_ret
      refine ⟨_, rfl, HB.out, fun _ => ?_⟩
      have : k = es.length := by omega
      subst this
      exact HF.out

end Go.Proofs.Qxb6615209a
