/-
  The walk of FnAlterUndoesItself (3).
-/
import Derived.Test.Qxb6001789aModsWalkA
import Derived.Test.Qxb6001789aModsWalkB
namespace Go.Proofs.Qxb6001789aMods
open Go.RowKit

set_option maxHeartbeats 1000000 in
theorem undoes_walk (a : Option Addr) (n c : Nat) (f : Nat → Nat) (w : World) (hs : Byt w a n f) :
    Calls Trym.prog 3 #[.slice a n c] w fun e w' => e = .returned (.bool true) ∧ Below w.heap.size w w' := by
  by_cases hn : (1048576 : Int) < (n : Int)
  · go_enter Trym.func3, Trym.ntmps3
    go_wp2_with fail
    refine (guard9_no a n c _ hn).mono ?_
    rintro e w1 ⟨rfl, rfl⟩
    go_wp2_with fail
    go_ret
    exact ⟨rfl, Below.refl _ _⟩
  by_cases h0 : n = 0
  · subst h0
    go_enter Trym.func3, Trym.ntmps3
    go_wp2_with fail
    refine (guard9_yes a 0 c _ (by omega)).mono ?_
    rintro e w1 ⟨rfl, rfl⟩
    go_wp2_with fail
    go_ret
    exact ⟨rfl, Below.refl _ _⟩
  have hnz : ((n : Int) == 0) = false := by simp; omega
  have hn0 : 0 < n := by omega
  have hnb : n ≤ 1048576 := by omega
  go_enter Trym.func3, Trym.ntmps3
  go_wp2_with fail
  refine (guard9_yes a n c _ (by omega)).mono ?_
  rintro e w1 ⟨rfl, rfl⟩
  go_wp2_with fail
  refine (clone_any a n c f _ hs hnb).mono ?_
  rintro e w1 ⟨a1, c1, rfl, hs1, hb1⟩
  go_wp2_with fail
  refine (zzalter_pos a1 n c1 f _ hs1 hn0 hnb).mono ?_
  rintro e w2 ⟨g2, c2, rfl, hg2, hO2, hb2⟩
  go_wp2_with fail
  refine (zzalter_pos _ n c2 (alt n f) _ hO2.byt hn0 hnb).mono ?_
  rintro e w3 ⟨g3, c3, rfl, hg3, hO3, hb3⟩
  have HB := (hb1.trans (hb2.mono hb1.size)).trans (hb3.mono (Nat.le_trans hb1.size hb2.size))
  have hs13 := (hs1.below hb2).below hb3
  have hsz := HB.size
  clear hb1 hb2 hb3 hO2 hs hs1
  go_wp2_with fail
  refine (same_yes _ a1 n c3 c1 (alt n (alt n f)) f _ hO3.byt hs13 hnb (fun i _ => alt_alt n i f)).mono ?_
  rintro e w4 ⟨rfl, hb4⟩
  go_wp2_with fail
  go_ret
  exact ⟨rfl, HB.trans (hb4.mono hsz)⟩
end Go.Proofs.Qxb6001789aMods
