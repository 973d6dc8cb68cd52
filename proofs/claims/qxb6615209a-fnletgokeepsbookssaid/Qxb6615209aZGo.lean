/-
  ZZletGo.
-/
import Derived.Test.Qxb6615209aGo
namespace Go.Proofs.Qxb6615209a
open Go.RowKit

theorem zgo_any (w : World) (B : Nat) (es : List Ent) (room now : Int) (T M A X : Nat) (tp : Nat → Nat) (k : Nat) (hS : St w.heap es room T M A X tp k) (hBk : Blk B es.length T M A X tp) (hw : WF es) (hk : k ≤ es.length)
    (hn0 : -9223372036854775808 ≤ now) (hn1 : now ≤ 9223372036854775807) :
    Calls Try.prog 10 #[.pointer (some ⟨T, 0, none⟩), .int .i64 now] w fun e w' => GPost w B es room now T M A X tp k e w' := by
  have hBT : B ≤ w.heap.size := by
    obtain ⟨_, _, h, _⟩ := hS.tr
    have := lt_of h; have := hBk.bT; omega
  have HS := show Hid _ from hS
  have HBk := show Hid _ from hBk
  clear hS hBk
  go_enter Try.func10, Try.ntmps10
  go_wp2_with fail
  refine (add_any now _ hn0 hn1).mono ?_
  rintro e w1 ⟨rfl, hb1⟩
  have HB1 := show Hid _ from hb1
  clear hb1
  go_wp2_with fail
  refine (go_any w1 B es room now T M A X tp k (HS.out.below HB1.out (Nat.le_refl _)) HBk.out hw hk).mono ?_
  rintro e w2 ⟨rfl, k', h1, h2, h3⟩
  have HB2 := show Hid _ from (HB1.out.mono hBT).trans h3
  clear h3
  go_wp2_with fail
  go_end0
  exact ⟨rfl, k', h1, h2, HB2.out⟩

end Go.Proofs.Qxb6615209a
