/-
  A TRANSPORT IN MEMORY, block by block; what each step of letGo does to it.
-/
import Derived.Test.Qxb6615209aForm
namespace Go.Proofs.Qxb6615209a
open Go.RowKit

/-! ### Blocks and cells -/
theorem cell_of {w : World} {b o : Nat} {cs : Array Value} {t : TypeId} {fr : Nat × Nat} {v : Value} (h : w.heap[b]? = some (.cells cs t fr)) (hv : cs[o]? = some v) : w.cell? ⟨b, o, none⟩ = some v := by
  simp [World.cell?, h, hv]
theorem free_of {w : World} {b o : Nat} {cs : Array Value} {t : TypeId} (h : w.heap[b]? = some (.cells cs t (0, 0))) : w.frozen? ⟨b, o, none⟩ = false := by
  simp [World.frozen?, h]
theorem lt_of {w : World} {b : Nat} {o : Obj} (h : w.heap[b]? = some o) : b < w.heap.size := by
  rcases Nat.lt_or_ge b w.heap.size with h' | h'
  · exact h'
  · rw [Array.getElem?_eq_none h'] at h; cases h
theorem set_same {w : World} {b o : Nat} {cs : Array Value} {t : TypeId} {fr : Nat × Nat} {v : Value} (h : w.heap[b]? = some (.cells cs t fr)) :
    (w.setCell ⟨b, o, none⟩ v).heap[b]? = some (.cells (cs.setIfInBounds o v) t fr) := by
  have hl := lt_of h
  have he : w.heap[b] = .cells cs t fr := by rw [Array.getElem?_eq_getElem hl] at h; exact Option.some.inj h
  simp [World.setCell, Array.getElem_modify, hl, he]
theorem set_other {w : World} {b c o : Nat} {v : Value} (h : c ≠ b) : (w.setCell ⟨b, o, none⟩ v).heap[c]? = w.heap[c]? := Below.heap_setCell w _ v c h
theorem set_size {w : World} {a : Addr} {v : Value} : (w.setCell a v).heap.size = w.heap.size := by simp [World.setCell]

/-! ### The rows and the map -/
def ptr (b : Nat) : Value := .pointer (some ⟨b, 0, none⟩)
/-- Cell i of a row of n pointers, those from lo up to hi laid. -/
def rowV (tp : Nat → Nat) (lo hi i : Nat) : Value := if lo ≤ i ∧ i < hi then ptr (tp i) else .pointer none
def rowL (tp : Nat → Nat) (n lo hi : Nat) : Array Value := ((List.range n).map (rowV tp lo hi)).toArray

theorem rowL_get {tp : Nat → Nat} {n lo hi i : Nat} (h : i < n) : (rowL tp n lo hi)[i]? = some (rowV tp lo hi i) := by
  unfold rowL; simp [h]
theorem rowL_size {tp : Nat → Nat} {n lo hi : Nat} : (rowL tp n lo hi).size = n := by simp [rowL]
theorem row_ext {cs : Array Value} {tp : Nat → Nat} {n lo hi : Nat} (hs : cs.size = n) (h : ∀ i, i < n → cs[i]? = some (rowV tp lo hi i)) : cs = rowL tp n lo hi := by
  apply Array.ext_getElem?
  intro i
  rcases Nat.lt_or_ge i n with hi | hi
  · rw [h i hi, rowL_get hi]
  · rw [Array.getElem?_eq_none (by omega), Array.getElem?_eq_none (by rw [rowL_size]; omega)]

theorem row_fill {tp : Nat → Nat} {n k : Nat} : (rowL tp n 0 k).setIfInBounds k (ptr (tp k)) = rowL tp n 0 (k + 1) := by
  refine row_ext (by rw [Array.size_setIfInBounds, rowL_size]) fun i hi => ?_
  rw [Array.getElem?_setIfInBounds]
  by_cases h : k = i
  · subst h
    rw [if_pos rfl, if_pos (by rw [rowL_size]; exact hi)]
    unfold rowV; rw [if_pos (by omega)]
  · rw [if_neg h, rowL_get hi]
    unfold rowV
    by_cases hk : i < k
    · rw [if_pos (by omega), if_pos (by omega)]
    · rw [if_neg (by omega), if_neg (by omega)]
theorem row_clear {tp : Nat → Nat} {n k : Nat} : (rowL tp n k n).setIfInBounds k (.pointer none) = rowL tp n (k + 1) n := by
  refine row_ext (by rw [Array.size_setIfInBounds, rowL_size]) fun i hi => ?_
  rw [Array.getElem?_setIfInBounds]
  by_cases h : k = i
  · subst h
    rw [if_pos rfl, if_pos (by rw [rowL_size]; exact hi)]
    unfold rowV; rw [if_neg (by omega)]
  · rw [if_neg h, rowL_get hi]
    unfold rowV
    by_cases hk : k ≤ i
    · rw [if_pos (by omega), if_pos (by omega)]
    · rw [if_neg (by omega), if_neg (by omega)]
theorem row_congr {tp tp' : Nat → Nat} {n lo hi : Nat} (h : ∀ i, i < hi → tp i = tp' i) : rowL tp n lo hi = rowL tp' n lo hi := by
  refine row_ext rowL_size fun i hi' => ?_
  rw [rowL_get hi']
  unfold rowV
  by_cases hc : lo ≤ i ∧ i < hi
  · rw [if_pos hc, if_pos hc, h i hc.2]
  · rw [if_neg hc, if_neg hc]

def mapE (es : List Ent) (tp : Nat → Nat) (i : Nat) : MapEntry := { key := .string (at_ es i).key, val := ptr (tp i), born := i }
/-- The entries from lo on, m of them. -/
def mapL (es : List Ent) (tp : Nat → Nat) (lo m : Nat) : Array MapEntry := ((List.range' lo m).map (mapE es tp)).toArray

theorem mapL_push (es : List Ent) (tp : Nat → Nat) (k : Nat) : (mapL es tp 0 k).push (mapE es tp k) = mapL es tp 0 (k + 1) := by
  unfold mapL
  rw [List.range'_concat, List.map_append]
  simp
theorem mapL_congr {es : List Ent} {tp tp' : Nat → Nat} {lo m : Nat} (h : ∀ i, i < lo + m → tp i = tp' i) : mapL es tp lo m = mapL es tp' lo m := by
  unfold mapL
  congr 1
  refine List.map_congr_left fun i hi => ?_
  have := List.mem_range'_1.1 hi
  unfold mapE; rw [h i (by omega)]
theorem mapL_erase (es : List Ent) (tp : Nat → Nat) (k m : Nat) : (mapL es tp k (m + 1)).eraseIdxIfInBounds 0 = mapL es tp (k + 1) m := by
  unfold mapL
  rw [List.range'_succ, List.map_cons]
  simp [Array.eraseIdxIfInBounds]
theorem mapL_size (es : List Ent) (tp : Nat → Nat) (k m : Nat) : (mapL es tp k m).size = m := by simp [mapL]

theorem beq_ne {a b : ByteArray} (h : a ≠ b) : (a == b) = false := by
  rw [Bool.eq_false_iff]; intro hc; exact h ((MapKept.bytes_beq _ _).1 hc)

theorem find_new {es : List Ent} (tp : Nat → Nat) {k : Nat} (hd : ∀ i j, i < j → j < es.length → (at_ es i).key ≠ (at_ es j).key) (hk : k < es.length) :
    Instr.findNow .string (.string (at_ es k).key) (mapL es tp 0 k).toList 0 = some none := by
  refine findNow_none ?_ 0
  intro e he
  have he' : e ∈ (List.range' 0 k).map (mapE es tp) := by simpa [mapL] using he
  obtain ⟨i, hi, rfl⟩ := List.mem_map.1 he'
  have := List.mem_range'_1.1 hi
  exact ⟨_, rfl, beq_ne (Ne.symm (hd i k (by omega) hk))⟩

theorem find_in {es : List Ent} (tp : Nat → Nat) {lo m i : Nat} (hd : ∀ i j, i < j → j < es.length → (at_ es i).key ≠ (at_ es j).key) (h1 : lo ≤ i) (h2 : i < lo + m) (h3 : lo + m ≤ es.length) :
    Instr.findNow .string (.string (at_ es i).key) (mapL es tp lo m).toList 0 = some (some (i - lo, ptr (tp i))) := by
  obtain ⟨d, rfl⟩ : ∃ d, i = lo + d := ⟨i - lo, by omega⟩
  have e : (mapL es tp lo m).toList = (List.range' lo d).map (mapE es tp) ++ mapE es tp (lo + d) :: (List.range' (lo + d + 1) (m - d - 1)).map (mapE es tp) := by
    unfold mapL
    have : m = d + (1 + (m - d - 1)) := by omega
    conv => lhs; rw [this]
    rw [← List.range'_append_1, ← List.range'_append_1]
    simp
  rw [e]
  have := findNow_at (s := (at_ es (lo + d)).key) (pre := (List.range' lo d).map (mapE es tp)) (post := (List.range' (lo + d + 1) (m - d - 1)).map (mapE es tp)) (e := mapE es tp (lo + d)) (by
    intro x hx
    obtain ⟨j, hj, rfl⟩ := List.mem_map.1 hx
    have hj' := List.mem_range'_1.1 hj
    exact ⟨_, rfl, beq_ne (Ne.symm (hd j (lo + d) (by omega) (by omega)))⟩) rfl 0
  rw [this]
  simp [mapE]

theorem find_out {es : List Ent} (tp : Nat → Nat) {lo m i : Nat} (hd : ∀ i j, i < j → j < es.length → (at_ es i).key ≠ (at_ es j).key) (h1 : i < lo) (h3 : lo + m ≤ es.length) :
    Instr.findNow .string (.string (at_ es i).key) (mapL es tp lo m).toList 0 = some none := by
  refine findNow_none ?_ 0
  intro e he
  have he' : e ∈ (List.range' lo m).map (mapE es tp) := by simpa [mapL] using he
  obtain ⟨j, hj, rfl⟩ := List.mem_map.1 he'
  have := List.mem_range'_1.1 hj
  exact ⟨_, rfl, beq_ne (hd i j (by omega) (by omega))⟩

/-! ### The transport -/
def keyAt (es : List Ent) (k i : Nat) : ByteArray := if i < k then ByteArray.empty else (at_ es i).key

structure Blk (B n T M A X : Nat) (tp : Nat → Nat) : Prop where
  bT : B ≤ T
  bM : B ≤ M
  bA : B ≤ A
  bX : B ≤ X
  bt : ∀ i, i < n → B ≤ tp i
  TM : T ≠ M
  TA : T ≠ A
  TX : T ≠ X
  MA : M ≠ A
  MX : M ≠ X
  AX : A ≠ X
  tT : ∀ i, i < n → tp i ≠ T
  tM : ∀ i, i < n → tp i ≠ M
  tA : ∀ i, i < n → tp i ≠ A
  tX : ∀ i, i < n → tp i ≠ X
  tt : ∀ i j, i < j → j < n → tp i ≠ tp j

structure St (h : Array Obj) (es : List Ent) (room : Int) (T M A X : Nat) (tp : Nat → Nat) (k : Nat) : Prop where
  tr : ∃ a c, h[T]? = some (.cells (trCells room (costFrom es k) M (.slice a (es.length - k) c)) 62 (0, 0)) ∧ (k < es.length → a = some ⟨A, k, none⟩ ∧ c = es.length - k)
  ag : h[A]? = some (.cells (rowL tp es.length k es.length) 36 (0, 0))
  tx : h[X]? = some (.cells (rowL tp es.length 0 es.length) 36 (0, 0))
  ob : ∀ i, i < es.length → ∃ ra rl, h[tp i]? = some (.cells (txCells (keyAt es k i) (at_ es i).en ra rl (at_ es i).rl.toNat) 77 (0, 0))
  mp : h[M]? = some (.map (mapL es tp k (es.length - k)) es.length)

theorem St.below {w w' : World} {S : Nat} {es : List Ent} {room : Int} {T M A X k : Nat} {tp : Nat → Nat} (h : St w.heap es room T M A X tp k) (hb : Below S w w') (hS : w.heap.size ≤ S) : St w'.heap es room T M A X tp k := by
  have key : ∀ b o, w.heap[b]? = some o → w'.heap[b]? = some o := fun b o hb' => by rw [hb.block b (Nat.lt_of_lt_of_le (lt_of hb') hS)]; exact hb'
  obtain ⟨a, c, h1, h2⟩ := h.tr
  exact ⟨⟨a, c, key _ _ h1, h2⟩, key _ _ h.ag, key _ _ h.tx, fun i hi => by obtain ⟨ra, rl, h3⟩ := h.ob i hi; exact ⟨ra, rl, key _ _ h3⟩, key _ _ h.mp⟩

end Go.Proofs.Qxb6615209a
