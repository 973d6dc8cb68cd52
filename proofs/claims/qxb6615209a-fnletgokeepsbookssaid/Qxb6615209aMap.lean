/-
  MAPS KEYED BY STRINGS, over the block's own array of entries: what lookup, a store of a new key, delete and len do, as run equations.
-/
import Derived.Test.Qxb6615209aTime2
import Derived.MapKept
namespace Go.Proofs.Qxb6615209a
open Go.RowKit Go.MapKept

/-- The world with block r turned. -/
def putB (w : World) (r : Nat) (o : Obj) : World := { w with heap := w.heap.setIfInBounds r o }

theorem putB_heap {w : World} {r : Nat} {o o' : Obj} (h : w.heap[r]? = some o') : (putB w r o).heap[r]? = some o := by
  have hl : r < w.heap.size := by
    rcases Nat.lt_or_ge r w.heap.size with h' | h'
    · exact h'
    · rw [Array.getElem?_eq_none h'] at h; cases h
  simp [putB, hl]
theorem putB_other {w : World} {r k : Nat} {o : Obj} (h : k ≠ r) : (putB w r o).heap[k]? = w.heap[k]? := by
  simp [putB, Ne.symm h]
theorem putB_size {w : World} {r : Nat} {o : Obj} : (putB w r o).heap.size = w.heap.size := by simp [putB]
theorem putB_below {B r : Nat} {a w : World} {o : Obj} (h : Below B a w) (hr : B ≤ r) : Below B a (putB w r o) :=
  h.trans ⟨rfl, rfl, rfl, by rw [putB_size]; exact Nat.le_refl _, fun k hk => putB_other (by omega)⟩

/-- Where a key stands among the entries. -/
def keyIs (s : ByteArray) (e : MapEntry) : Bool := match e.key with | .string t => s == t | _ => false
def allStr (es : List MapEntry) : Prop := ∀ e ∈ es, ∃ s, e.key = .string s

theorem findNow_none {s : ByteArray} {es : List MapEntry} (h : ∀ e ∈ es, ∃ t, e.key = .string t ∧ (s == t) = false) (i : Nat) : Instr.findNow .string (.string s) es i = some none := by
  induction es generalizing i with
  | nil => rfl
  | cons e es ih =>
    obtain ⟨t, h1, h2⟩ := h e List.mem_cons_self
    simp only [Instr.findNow, h1, Instr.sameNow, h2]
    exact ih (fun x hx => h x (List.mem_cons_of_mem _ hx)) _

theorem findNow_at {s : ByteArray} {pre post : List MapEntry} {e : MapEntry} (h : ∀ x ∈ pre, ∃ t, x.key = .string t ∧ (s == t) = false) (he : e.key = .string s) (i : Nat) :
    Instr.findNow .string (.string s) (pre ++ e :: post) i = some (some (i + pre.length, e.val)) := by
  induction pre generalizing i with
  | nil =>
    have hs : (s == s) = true := (bytes_beq s s).2 rfl
    simp [Instr.findNow, he, Instr.sameNow, hs]
  | cons x pre ih =>
    obtain ⟨t, h1, h2⟩ := h x List.mem_cons_self
    simp only [List.cons_append, Instr.findNow, h1, Instr.sameNow, h2]
    rw [ih (fun y hy => h y (List.mem_cons_of_mem _ hy))]
    simp; omega

section
variable {P : Program} {t kt et : TypeId} {w : World} {r clock : Nat} {es : Array MapEntry}

theorem run_find {s : ByteArray} {res : Option (Nat × Value)} (hk : P.underlying kt = some .string) (h : Instr.findNow .string (.string s) es.toList 0 = some res) :
    (Instr.findKey kt (.string s) es.toList).run P w = .ok res w := by
  simp [Instr.findKey, run_underlying hk, h]

theorem run_check {s : ByteArray} {b : Bool} (hk : P.underlying kt = some .string) : (Instr.checkKey b 10000 kt (.string s)).run P w = .ok () w := by
  exact run_checkKey hk (by simp [IsKey]) b 9999

theorem run_get (hb : w.heap[r]? = some (.map es clock)) : (getObj r).run P w = .ok (.map es clock) w := by
  simp [getObj, Sem.run, hb]

theorem run_set (hb : w.heap[r]? = some (.map es clock)) (o : Obj) : (setObj r o).run P w = .ok () (putB w r o) := by
  simp [setObj, Sem.run, hb, putB]

theorem run_lookup_hit {s : ByteArray} {i : Nat} {v : Value} {c : Bool} (ht : P.underlying t = some (.map kt et)) (hk : P.underlying kt = some .string) (hb : w.heap[r]? = some (.map es clock))
    (h : Instr.findNow .string (.string s) es.toList 0 = some (some (i, v))) :
    (Instr.lookup t (.map (some r)) (.string s) c).run P w = .ok (if c then .tuple #[v, .bool true] else v) w := by
  simp [Instr.lookup, run_underlying ht, run_get hb, run_check hk, run_find hk h]

theorem run_lookup_miss {s : ByteArray} {z : Value} {c : Bool} (ht : P.underlying t = some (.map kt et)) (hk : P.underlying kt = some .string) (hb : w.heap[r]? = some (.map es clock))
    (h : Instr.findNow .string (.string s) es.toList 0 = some none) (hz : (zeroValue et).run P w = .ok z w) :
    (Instr.lookup t (.map (some r)) (.string s) c).run P w = .ok (if c then .tuple #[z, .bool false] else z) w := by
  simp [Instr.lookup, run_underlying ht, run_get hb, run_check hk, run_find hk h, hz]

theorem run_store_new {s : ByteArray} {v : Value} (ht : P.underlying t = some (.map kt et)) (hk : P.underlying kt = some .string) (hb : w.heap[r]? = some (.map es clock))
    (h : Instr.findNow .string (.string s) es.toList 0 = some none) :
    (Instr.mapUpdate t (.map (some r)) (.string s) v).run P w = .ok () (putB w r (.map (es.push { key := .string s, val := v, born := clock }) (clock + 1))) := by
  simp [Instr.mapUpdate, run_underlying ht, run_get hb, run_check hk, run_find hk h, run_set hb]

theorem run_del {s : ByteArray} {i : Nat} {v : Value} {a2 ty : TypeId} (ht : P.underlying t = some (.map kt et)) (hk : P.underlying kt = some .string) (hb : w.heap[r]? = some (.map es clock))
    (h : Instr.findNow .string (.string s) es.toList 0 = some (some (i, v))) :
    (Builtin.delete_ #[t, a2] ty #[.map (some r), .string s]).run P w = .ok (.tuple #[]) (putB w r (.map (es.eraseIdxIfInBounds i) clock)) := by
  simp [Builtin.delete_, run_underlying ht, run_get hb, run_check hk, run_find hk h, run_set hb]

theorem run_len_map {ty : TypeId} (ht : P.underlying t = some (.map kt et)) (hb : w.heap[r]? = some (.map es clock)) :
    (Builtin.len_ #[t] ty #[.map (some r)]).run P w = .ok (.int .i64 es.size) w := by
  simp [Builtin.len_, run_underlying ht, run_get hb, goInt]
end

end Go.Proofs.Qxb6615209a
