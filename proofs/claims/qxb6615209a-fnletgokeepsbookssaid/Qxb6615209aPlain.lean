/-
  PLAIN: entries, their costs, which are dropped. Nothing of Go here.
-/
namespace Go.Proofs.Qxb6615209a

structure Ent where
  key : ByteArray
  en : Int
  rl : Int

def e0 : Ent := ⟨ByteArray.empty, 0, 0⟩
def at_ (es : List Ent) (i : Nat) : Ent := es.getD i e0
def Ent.cost (e : Ent) : Nat := 256 + e.key.size + e.rl.toNat
def costFrom (es : List Ent) (k : Nat) : Nat := ((es.drop k).map Ent.cost).sum

theorem at_eq {es : List Ent} {i : Nat} (h : i < es.length) : at_ es i = es[i] := by
  unfold at_; rw [List.getD_eq_getElem?_getD, List.getElem?_eq_getElem h]; rfl
theorem at_mem {es : List Ent} {i : Nat} (h : i < es.length) : at_ es i ∈ es := by rw [at_eq h]; exact List.getElem_mem h
theorem mem_at {es : List Ent} {e : Ent} (h : e ∈ es) : ∃ i, i < es.length ∧ at_ es i = e := by
  obtain ⟨i, hi, he⟩ := List.getElem_of_mem h
  exact ⟨i, hi, by rw [at_eq hi]; exact he⟩
theorem take_snoc {es : List Ent} {k : Nat} (h : k < es.length) : es.take (k + 1) = es.take k ++ [at_ es k] := by
  rw [List.take_succ_eq_append_getElem h, at_eq h]

theorem costFrom_step {es : List Ent} {k : Nat} (h : k < es.length) : costFrom es k = (at_ es k).cost + costFrom es (k + 1) := by
  unfold costFrom; rw [List.drop_eq_getElem_cons h, List.map_cons, List.sum_cons, at_eq h]
theorem costFrom_end {es : List Ent} {k : Nat} (h : es.length ≤ k) : costFrom es k = 0 := by
  unfold costFrom; rw [List.drop_eq_nil_of_le h]; rfl
theorem costFrom_anti {es : List Ent} {j k : Nat} (h : j ≤ k) : costFrom es k ≤ costFrom es j := by
  obtain ⟨d, rfl⟩ : ∃ d, k = j + d := ⟨k - j, by omega⟩
  clear h
  induction d with
  | zero => exact Nat.le_refl _
  | succ d ih =>
    rw [← Nat.add_assoc]
    rcases Nat.lt_or_ge (j + d) es.length with h | h
    · have := costFrom_step h; omega
    · rw [costFrom_end (k := j + d + 1) (by omega)]; exact Nat.zero_le _

/-- How many of the entries end before 'now'. -/
def cntB (now : Int) : List Ent → Nat
  | [] => 0
  | e :: es => (if e.en < now then 1 else 0) + cntB now es
theorem cntB_snoc (now : Int) (es : List Ent) (e : Ent) : cntB now (es ++ [e]) = cntB now es + (if e.en < now then 1 else 0) := by
  induction es with
  | nil => simp [cntB]
  | cons x es ih => simp only [List.cons_append, cntB, ih]; omega
theorem cntB_le (now : Int) (es : List Ent) : cntB now es ≤ es.length := by
  induction es with
  | nil => exact Nat.le_refl _
  | cons x es ih => simp only [cntB, List.length_cons]; split <;> omega

def Sorted (es : List Ent) : Prop := ∀ i, i + 1 < es.length → (at_ es i).en ≤ (at_ es (i + 1)).en

theorem Sorted.le {es : List Ent} (h : Sorted es) {i j : Nat} (hij : i ≤ j) (hj : j < es.length) : (at_ es i).en ≤ (at_ es j).en := by
  obtain ⟨d, rfl⟩ : ∃ d, j = i + d := ⟨j - i, by omega⟩
  clear hij
  induction d with
  | zero => exact Int.le_refl _
  | succ d ih =>
    have a := ih (by omega)
    have b := h (i + d) (by omega)
    rw [← Nat.add_assoc]
    exact Int.le_trans a b

theorem at_cons_succ (e : Ent) (es : List Ent) (i : Nat) : at_ (e :: es) (i + 1) = at_ es i := rfl
theorem at_cons_zero (e : Ent) (es : List Ent) : at_ (e :: es) 0 = e := rfl

theorem cntB_zero {now : Int} {es : List Ent} (h : ∀ e ∈ es, now ≤ e.en) : cntB now es = 0 := by
  induction es with
  | nil => rfl
  | cons x es ih =>
    have a := h x List.mem_cons_self
    rw [cntB, ih fun e he => h e (List.mem_cons_of_mem _ he), if_neg (by omega)]

theorem cntB_spec {now : Int} {es : List Ent} (h : Sorted es) : ∀ i, i < es.length → (i < cntB now es → (at_ es i).en < now) ∧ (cntB now es ≤ i → now ≤ (at_ es i).en) := by
  induction es with
  | nil => intro i hi; simp at hi
  | cons x es ih =>
    have hs : Sorted es := fun i hi => h (i + 1) (by simp at hi ⊢; omega)
    intro i hi
    by_cases hx : x.en < now
    · have e : cntB now (x :: es) = cntB now es + 1 := by rw [cntB, if_pos hx]; omega
      rw [e]
      cases i with
      | zero => exact ⟨fun _ => hx, fun h => by omega⟩
      | succ i =>
        rw [at_cons_succ]
        obtain ⟨a, b⟩ := ih hs i (by simp at hi; omega)
        exact ⟨fun h => a (by omega), fun h => b (by omega)⟩
    · have z : cntB now es = 0 := cntB_zero fun e he => by
        obtain ⟨j, hj, rfl⟩ := mem_at he
        have := h.le (i := 0) (j := j + 1) (by omega) (by simp; omega)
        rw [at_cons_zero, at_cons_succ] at this
        omega
      have e : cntB now (x :: es) = 0 := by rw [cntB, if_neg hx, z]
      rw [e]
      refine ⟨fun h => by omega, fun _ => ?_⟩
      have := h.le (i := 0) (j := i) (by omega) hi
      rw [at_cons_zero] at this
      omega

/-- The list stops being let go at j. -/
def Stop (es : List Ent) (room now : Int) (j : Nat) : Prop := es.length ≤ j ∨ ((costFrom es j : Int) ≤ room ∧ now ≤ (at_ es j).en)

/-- k' is where a run from k stops. -/
structure Runs (es : List Ent) (room now : Int) (k k' : Nat) : Prop where
  le : k ≤ k'
  len : k' ≤ es.length
  stop : Stop es room now k'
  before : ∀ j, k ≤ j → j < k' → ¬ Stop es room now j

/-- What letGoDropped counts. -/
structure Drop (es : List Ent) (room now : Int) (k : Nat) : Prop where
  fit : ∃ f, f ≤ es.length ∧ (costFrom es f : Int) ≤ room ∧ (f = 0 ∨ room < (costFrom es (f - 1) : Int)) ∧ k = if f < cntB now es then cntB now es else f

theorem Stop.up {es : List Ent} {room now : Int} {j k : Nat} (hs : Sorted es) (h : Stop es room now j) (hjk : j ≤ k) : Stop es room now k := by
  rcases Nat.lt_or_ge k es.length with hk | hk
  · rcases h with h | ⟨h1, h2⟩
    · omega
    · refine Or.inr ⟨?_, ?_⟩
      · have := costFrom_anti (es := es) hjk; omega
      · have := hs.le hjk hk; omega
  · exact Or.inl hk

theorem Drop.runs {es : List Ent} {room now : Int} {k : Nat} (hs : Sorted es) (h : Drop es room now k) : Runs es room now 0 k := by
  obtain ⟨f, f1, f2, f3, rfl⟩ := h.fit
  have hc := cntB_le now es
  have sp := cntB_spec (now := now) hs
  refine ⟨Nat.zero_le _, by split <;> omega, ?_, ?_⟩
  · by_cases hl : (if f < cntB now es then cntB now es else f) < es.length
    · refine Or.inr ⟨?_, (sp _ hl).2 (by split <;> omega)⟩
      have := costFrom_anti (es := es) (j := f) (k := if f < cntB now es then cntB now es else f) (by split <;> omega)
      omega
    · exact Or.inl (by omega)
  · intro j _ hj hst
    rcases hst with h | ⟨h1, h2⟩
    · split at hj <;> omega
    · rcases Nat.lt_or_ge j f with hjf | hjf
      · rcases f3 with h0 | h0
        · omega
        · have := costFrom_anti (es := es) (j := j) (k := f - 1) (by omega)
          omega
      · have hjc : j < cntB now es := by split at hj <;> omega
        have := (sp j (by omega)).1 hjc
        omega

theorem Runs.unique {es : List Ent} {room now : Int} {k a b : Nat} (h1 : Runs es room now k a) (h2 : Runs es room now k b) : a = b := by
  rcases Nat.lt_trichotomy a b with h | h | h
  · exact absurd h1.stop (h2.before a h1.le h)
  · exact h
  · exact absurd h2.stop (h1.before b h2.le h)

/-- AT nowA, THEN AT nowB: AS ONCE AT THE LATER. -/
theorem Runs.later {es : List Ent} {room a b : Int} {x y z : Nat} (hs : Sorted es) (h1 : Runs es room a 0 x) (h2 : Runs es room b x y) (h3 : Runs es room (if a < b then b else a) 0 z) : y = z := by
  have stopMono : ∀ {m n : Int} {j : Nat}, m ≤ n → Stop es room n j → Stop es room m j := fun hmn h => by
    rcases h with h | ⟨p, q⟩
    · exact Or.inl h
    · exact Or.inr ⟨p, by omega⟩
  have hy : Stop es room (if a < b then b else a) y := by
    have sa := h1.stop.up hs h2.le
    have sb := h2.stop
    split
    · exact sb
    · exact sa
  have za : Stop es room a z := stopMono (by split <;> omega) h3.stop
  have zb : Stop es room b z := stopMono (by split <;> omega) h3.stop
  rcases Nat.lt_trichotomy y z with h | h | h
  · exact absurd hy (h3.before y (Nat.zero_le _) h)
  · exact h
  · rcases Nat.lt_or_ge z x with hx | hx
    · exact absurd za (h1.before z (Nat.zero_le _) hx)
    · exact absurd zb (h2.before z hx h)

theorem Runs.again {es : List Ent} {room a : Int} {k x y : Nat} (h1 : Runs es room a k x) (h2 : Runs es room a x y) : y = x := by
  rcases Nat.lt_or_eq_of_le h2.le with h | h
  · exact absurd h1.stop (h2.before x (Nat.le_refl _) h)
  · exact h.symm

/-! ### Sums -/
def keySum : List Ent → Nat
  | [] => 0
  | e :: es => e.key.size + keySum es
def rlSum : List Ent → Nat
  | [] => 0
  | e :: es => e.rl.toNat + rlSum es
theorem keySum_snoc (es : List Ent) (e : Ent) : keySum (es ++ [e]) = keySum es + e.key.size := by
  induction es with
  | nil => simp [keySum]
  | cons x es ih => simp only [List.cons_append, keySum, ih]; omega
theorem rlSum_snoc (es : List Ent) (e : Ent) : rlSum (es ++ [e]) = rlSum es + e.rl.toNat := by
  induction es with
  | nil => simp [rlSum]
  | cons x es ih => simp only [List.cons_append, rlSum, ih]; omega
theorem costFrom_zero (es : List Ent) : costFrom es 0 = 256 * es.length + keySum es + rlSum es := by
  unfold costFrom
  rw [List.drop_zero]
  induction es with
  | nil => rfl
  | cons x es ih => rw [List.map_cons, List.sum_cons, ih]; simp only [Ent.cost, List.length_cons, keySum, rlSum]; omega

/-- What the law has made sure of before it builds. -/
structure WF (es : List Ent) : Prop where
  len : es.length ≤ 32768
  key : ∀ e ∈ es, e.key.size ≤ 1048576
  rl : ∀ e ∈ es, 0 ≤ e.rl ∧ e.rl ≤ 65536
  sum : costFrom es 0 ≤ 16777216
  ne : ∀ e ∈ es, e.key ≠ ByteArray.empty
  dist : ∀ i j, i < j → j < es.length → (at_ es i).key ≠ (at_ es j).key
  sorted : Sorted es

theorem WF.cost_le {es : List Ent} (h : WF es) (k : Nat) : costFrom es k ≤ 16777216 := Nat.le_trans (costFrom_anti (Nat.zero_le _)) h.sum

end Go.Proofs.Qxb6615209a
