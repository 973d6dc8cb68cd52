/-
  zzLeastDomainB1: what it lets by.
-/
import Derived.Test.Qxb6615185aLeaf2
namespace Go.Proofs.Qxb6615185a
open Go.RowKit

/-- 1e100, 1.0 -/
def s1 : Nat := 6103021453049119613
def one : Nat := 4607182418800017408

/-- Within 1e-100 .. 1e100. -/
def inR (x : Nat) : Prop := Fl.s0 ≤ x ∧ x ≤ s1

theorem ok_of_ord {x y : Nat} {o : Ordering} (hx : x < 2 ^ 64) (h : FloatKind.f64.format.order x y = some o) : Fl.ok x := by
  refine ⟨hx, ?_⟩
  rcases Nat.lt_or_ge Fl.inf (Fl.rn x) with h' | h'
  · rw [fmt64, Fl.order_nan_left h'] at h; cases h
  · exact h'

theorem ok_of_ge {x y : Nat} (hx : x < 2 ^ 64) (h : (FloatKind.f64.format.order x y == some .gt || FloatKind.f64.format.order x y == some .eq) = true) : Fl.ok x := by
  rw [Bool.or_eq_true, beq_iff_eq, beq_iff_eq] at h
  rcases h with h | h
  · exact ok_of_ord hx h
  · exact ok_of_ord hx h

theorem pos_of_key {x : Nat} {c : Nat} (h : Fl.ok x) (hc : 0 < c) (hk : (c : Int) ≤ Fl.key x) : c ≤ x ∧ Fl.key x = x := by
  have : x = (Fl.key x).toNat := Fl.word_of_key h (by omega) (by omega)
  omega

theorem inR_of {x : Nat} (hx : x < 2 ^ 64)
    (h1 : (FloatKind.f64.format.order x 3110860544497550640 == some .gt || FloatKind.f64.format.order x 3110860544497550640 == some .eq) = true)
    (h2 : (FloatKind.f64.format.order x 6103021453049119613 == some .lt || FloatKind.f64.format.order x 6103021453049119613 == some .eq) = true) : inR x := by
  have hk := ok_of_ge hx h1
  have o1 : Fl.ok 3110860544497550640 := Fl.ok_pos (by decide)
  have o2 : Fl.ok 6103021453049119613 := Fl.ok_pos (by decide)
  rw [ord_ge hk o1, decide_eq_true_eq, Fl.key_pos (by decide)] at h1
  rw [ord_le hk o2, decide_eq_true_eq, Fl.key_pos (x := 6103021453049119613) (by decide)] at h2
  obtain ⟨a, b⟩ := pos_of_key hk (by decide) h1
  exact ⟨a, by unfold s1; omega⟩

theorem p_of {x : Nat} (hx : x < 2 ^ 64)
    (h1 : (FloatKind.f64.format.order x 0 == some .gt) = true)
    (h2 : (FloatKind.f64.format.order x 4607182418800017408 == some .lt) = true) : 0 < x ∧ x < one := by
  have hk := ok_of_ord hx (beq_iff_eq.1 h1)
  have o1 : Fl.ok 0 := Fl.ok_pos (by decide)
  have o2 : Fl.ok 4607182418800017408 := Fl.ok_pos (by decide)
  rw [ord_gt hk o1, decide_eq_true_eq, Fl.key_pos (by decide)] at h1
  rw [ord_lt hk o2, decide_eq_true_eq, Fl.key_pos (x := 4607182418800017408) (by decide)] at h2
  obtain ⟨a, b⟩ := pos_of_key (c := 1) hk (by decide) (by omega)
  exact ⟨a, by unfold one; omega⟩

theorem ofN_one : Fl.ofN 1 = one := by decide +kernel

theorem rest_zero {x : Nat} (hx : x < 2 ^ 64) (h : (FloatKind.f64.format.order x 0 != some .eq) = false) : Fl.ok x ∧ Fl.key x = Fl.ofN 0 := by
  have h' : FloatKind.f64.format.order x 0 = some .eq := by simpa using h
  have hk := ok_of_ord hx h'
  refine ⟨hk, ?_⟩
  have o1 : Fl.ok 0 := Fl.ok_pos (by decide)
  have := ord_eq hk o1
  rw [h', Fl.key_pos (x := 0) (by decide)] at this
  have e := of_decide_eq_true this.symm
  rw [e]; rfl

theorem rest_one {x : Nat} (hx : x < 2 ^ 64) (h : (FloatKind.f64.format.order x 4607182418800017408 != some .eq) = false) : Fl.ok x ∧ Fl.key x = Fl.ofN 1 := by
  have h' : FloatKind.f64.format.order x 4607182418800017408 = some .eq := by simpa using h
  have hk := ok_of_ord hx h'
  refine ⟨hk, ?_⟩
  have o1 : Fl.ok 4607182418800017408 := Fl.ok_pos (by decide)
  have := ord_eq hk o1
  rw [h', Fl.key_pos (x := 4607182418800017408) (by decide)] at this
  have e := of_decide_eq_true this.symm
  rw [e, ofN_one]; rfl

theorem guess_ok {x : Nat} (hx : x < 2 ^ 64) (h : (FloatKind.f64.format.order x x != some .eq) = false) : Fl.ok x := by
  have h' : FloatKind.f64.format.order x x = some .eq := by simpa using h
  exact ok_of_ord hx h'

/-- A bool is answered, the world stands; if it is true, P. -/
def Answers (w : World) (P : Prop) (e : Ending) (w' : World) : Prop := ∃ b, e = .returned (.bool b) ∧ w' = w ∧ (b = true → P)

/-- What the domain lets by. -/
structure Dom (fs : List Nat) (t s p r g : Nat) : Prop where
  t : inR t
  s : inR s
  p : 0 < p ∧ p < one
  r : Fl.ok r ∧ ∃ r0, r0 ≤ 1 ∧ Fl.key r = Fl.ofN r0
  g : Fl.ok g
  f : ∀ f ∈ fs, inR f

set_option maxHeartbeats 1000000 in
theorem domain_loop (a : Option Addr) (cap : Nat) (fs : List Nat) (t s p r g : Nat) (w : World) (hr : Reads w a fs) (hn : fs.length ≤ 65536) (hf : ∀ f ∈ fs, f < 2 ^ 64)
    (hT1 : (FloatKind.f64.format.order t 3110860544497550640 == some .gt || FloatKind.f64.format.order t 3110860544497550640 == some .eq) = true)
    (hT2 : (FloatKind.f64.format.order t 6103021453049119613 == some .lt || FloatKind.f64.format.order t 6103021453049119613 == some .eq) = true)
    (hS1 : (FloatKind.f64.format.order s 3110860544497550640 == some .gt || FloatKind.f64.format.order s 3110860544497550640 == some .eq) = true)
    (hS2 : (FloatKind.f64.format.order s 6103021453049119613 == some .lt || FloatKind.f64.format.order s 6103021453049119613 == some .eq) = true)
    (hP1 : (FloatKind.f64.format.order p 0 == some .gt) = true)
    (hP2 : (FloatKind.f64.format.order p 4607182418800017408 == some .lt) = true)
    (hR : (FloatKind.f64.format.order r 0 != some .eq) = false ∨ ((FloatKind.f64.format.order r 0 != some .eq) = true ∧ (FloatKind.f64.format.order r 4607182418800017408 != some .eq) = false))
    (hG : (FloatKind.f64.format.order g g != some .eq) = false) :
    Calls Try.prog 6 #[.slice a fs.length cap, .float .f64 t, .float .f64 s, .float .f64 p, .float .f64 r, .float .f64 g] w fun e w' => Answers w (∀ f ∈ fs, inR f) e w' := by
  rcases hR with h | ⟨h, h'⟩
  all_goals
    go_enter Try.func6, Try.ntmps6
    go_wp2
    go_loop [13, 14] (fun i _ => ∃ k : Nat, k ≤ fs.length ∧ i = .int .i64 k ∧ ∀ f ∈ fs.take k, inR f) (fun i _ => fs.length - (intOf i).toNat)
    case atStart => exact ⟨0, Nat.zero_le _, rfl, fun f hf => by simp at hf⟩
    case round =>
      obtain ⟨k, hk, rfl, hall⟩ := hrel
      have HA : Hid (∀ f ∈ fs.take k, inR f) := hall
      clear hall
      clear hT1 hT2 hS1 hS2 hP1 hP2 h hG
      by_cases hlt : k < fs.length
      · obtain ⟨b, off, rfl, hcell⟩ := hr k hlt
        have hm := hf _ (getD_mem hlt)
        have HS := take_snoc hlt
        generalize fs.getD k 0 = f at hcell hm HS
        have HT : Hid (fs.take (k + 1) = fs.take k ++ [f]) := HS
        have HM : Hid (f < 2 ^ 64) := hm
        clear HS hm hf hr
        cases b1 : (FloatKind.f64.format.order f 3110860544497550640 == some .gt || FloatKind.f64.format.order f 3110860544497550640 == some .eq)
        · go_wp2
          go_ret
          exact ⟨_, rfl, rfl, fun h => by cases h⟩
        · cases b2 : (FloatKind.f64.format.order f 6103021453049119613 == some .lt || FloatKind.f64.format.order f 6103021453049119613 == some .eq)
          · go_wp2
            go_ret
            exact ⟨_, rfl, rfl, fun h => by cases h⟩
          · have HB : Hid (inR f) := inR_of HM.out b1 b2
            go_wp2
            go_round
            case rel =>
              refine ⟨k + 1, by omega, by go_num, fun x hx => ?_⟩
              rw [HT.out, List.mem_append] at hx
              rcases hx with hx | hx
              · exact HA.out x hx
              · rw [List.mem_singleton] at hx; rw [hx]; exact HB.out
            case measure => simp [intOf]; omega
      · go_wp2
        go_ret
        refine ⟨_, rfl, rfl, fun _ x hx => HA.out x ?_⟩
        rw [List.take_of_length_le (by omega)]; exact hx

set_option maxHeartbeats 1000000 in
/-- THE DOMAIN. -/
theorem domain_any (a : Option Addr) (cap : Nat) (fs : List Nat) (t s p r g : Nat) (w : World) (hr : Reads w a fs) (hn : fs.length ≤ 65536) (hf : ∀ f ∈ fs, f < 2 ^ 64)
    (ht : t < 2 ^ 64) (hs : s < 2 ^ 64) (hp : p < 2 ^ 64) (hr' : r < 2 ^ 64) (hg : g < 2 ^ 64) :
    Calls Try.prog 6 #[.slice a fs.length cap, .float .f64 t, .float .f64 s, .float .f64 p, .float .f64 r, .float .f64 g] w fun e w' => Answers w (Dom fs t s p r g) e w' := by
  cases hT1 : (FloatKind.f64.format.order t 3110860544497550640 == some .gt || FloatKind.f64.format.order t 3110860544497550640 == some .eq)
  · clear hr hn hf
    go_enter Try.func6, Try.ntmps6
    go_wp2
    go_ret
    exact ⟨_, rfl, rfl, fun h => by cases h⟩
  cases hT2 : (FloatKind.f64.format.order t 6103021453049119613 == some .lt || FloatKind.f64.format.order t 6103021453049119613 == some .eq)
  · clear hr hn hf
    go_enter Try.func6, Try.ntmps6
    go_wp2
    go_ret
    exact ⟨_, rfl, rfl, fun h => by cases h⟩
  cases hS1 : (FloatKind.f64.format.order s 3110860544497550640 == some .gt || FloatKind.f64.format.order s 3110860544497550640 == some .eq)
  · clear hr hn hf
    go_enter Try.func6, Try.ntmps6
    go_wp2
    go_ret
    exact ⟨_, rfl, rfl, fun h => by cases h⟩
  cases hS2 : (FloatKind.f64.format.order s 6103021453049119613 == some .lt || FloatKind.f64.format.order s 6103021453049119613 == some .eq)
  · clear hr hn hf
    go_enter Try.func6, Try.ntmps6
    go_wp2
    go_ret
    exact ⟨_, rfl, rfl, fun h => by cases h⟩
  cases hP1 : (FloatKind.f64.format.order p 0 == some .gt)
  · clear hr hn hf
    go_enter Try.func6, Try.ntmps6
    go_wp2
    go_ret
    exact ⟨_, rfl, rfl, fun h => by cases h⟩
  cases hP2 : (FloatKind.f64.format.order p 4607182418800017408 == some .lt)
  · clear hr hn hf
    go_enter Try.func6, Try.ntmps6
    go_wp2
    go_ret
    exact ⟨_, rfl, rfl, fun h => by cases h⟩
  have d1 := inR_of ht hT1 hT2
  have d2 := inR_of hs hS1 hS2
  have d3 := p_of hp hP1 hP2
  have HD : Hid (inR t ∧ inR s ∧ (0 < p ∧ p < one)) := ⟨d1, d2, d3⟩
  clear d1 d2 d3
  cases hR0 : (FloatKind.f64.format.order r 0 != some .eq)
  · have HR : Hid (Fl.ok r ∧ ∃ r0, r0 ≤ 1 ∧ Fl.key r = Fl.ofN r0) := ⟨(rest_zero hr' hR0).1, 0, by omega, (rest_zero hr' hR0).2⟩
    cases hG : (FloatKind.f64.format.order g g != some .eq)
    · refine (domain_loop a cap fs t s p r g w hr hn hf hT1 hT2 hS1 hS2 hP1 hP2 (Or.inl hR0) hG).mono ?_
      rintro e w' ⟨b, h1, h2, h3⟩
      exact ⟨b, h1, h2, fun hb => ⟨HD.out.1, HD.out.2.1, HD.out.2.2, HR.out, guess_ok hg hG, h3 hb⟩⟩
    · clear hr hn hf
      go_enter Try.func6, Try.ntmps6
      go_wp2
      go_ret
      exact ⟨_, rfl, rfl, fun h => by cases h⟩
  · cases hR1 : (FloatKind.f64.format.order r 4607182418800017408 != some .eq)
    · have HR : Hid (Fl.ok r ∧ ∃ r0, r0 ≤ 1 ∧ Fl.key r = Fl.ofN r0) := ⟨(rest_one hr' hR1).1, 1, by omega, (rest_one hr' hR1).2⟩
      cases hG : (FloatKind.f64.format.order g g != some .eq)
      · refine (domain_loop a cap fs t s p r g w hr hn hf hT1 hT2 hS1 hS2 hP1 hP2 (Or.inr ⟨hR0, hR1⟩) hG).mono ?_
        rintro e w' ⟨b, h1, h2, h3⟩
        exact ⟨b, h1, h2, fun hb => ⟨HD.out.1, HD.out.2.1, HD.out.2.2, HR.out, guess_ok hg hG, h3 hb⟩⟩
      · clear hr hn hf
        go_enter Try.func6, Try.ntmps6
        go_wp2
        go_ret
        exact ⟨_, rfl, rfl, fun h => by cases h⟩
    · clear hr hn hf
      go_enter Try.func6, Try.ntmps6
      go_wp2
      go_ret
      exact ⟨_, rfl, rfl, fun h => by cases h⟩

end Go.Proofs.Qxb6615185a
