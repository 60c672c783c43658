/-
  The walk of FnHoldsInOrderAgreesWithMatchFromTheEnd (3), out of its callees' contracts.
-/
import Derived.Test.Qxb6001729aModsWalkA
import Derived.Test.Qxb6001729aModsWalkB
import Derived.Test.Qxb6001729aModsWalkC
import Derived.Test.Qxb6001729aModsWalkD
namespace Go.Proofs.Qxb6001729aMods
open Go.RowKit

theorem below_drewN (w : World) (q : Nat) : Below w.heap.size w (w.drewN q) := ⟨rfl, rfl, rfl, Nat.le_refl _, fun _ _ => rfl⟩

set_option maxHeartbeats 1000000 in
theorem agrees_walk (a1 a2 : Option Addr) (n c1 m c2 : Nat) (f g : Nat → ByteArray) (w : World) (hs1 : StrAt w a1 n f) (hs2 : StrAt w a2 m g) :
    Calls Trym.prog 3 #[.slice a1 n c1, .slice a2 m c2] w fun e w' => e = .returned (.bool true) ∧ Below w.heap.size w w' := by
  go_enter Trym.func3, Trym.ntmps3
  go_wp2_with fail
  refine (bytes9_any a1 a2 n c1 m c2 f g w hs1 hs2).mono ?_
  rintro e w' ⟨⟨r, rfl, hr⟩, rfl⟩
  cases r with
  | false =>
    clear hr
    go_wp2_with fail
    go_ret
    exact ⟨rfl, Below.refl _ _⟩
  | true =>
    have hbd := hr rfl
    clear hr
    by_cases hn : (65536 : Int) < (n : Int)
    · go_wp2_with fail
      go_ret
      exact ⟨rfl, Below.refl _ _⟩
    by_cases hm : (65536 : Int) < (m : Int)
    · go_wp2_with fail
      go_ret
      exact ⟨rfl, Below.refl _ _⟩
    go_wp2_with fail
    refine (weigh_any a1 n c1 f _ hs1 (by omega)).mono ?_
    rintro e w' ⟨rfl, rfl⟩
    go_wp2_with fail
    refine (weigh_any a2 m c2 g _ hs2 (by omega)).mono ?_
    rintro e w' ⟨rfl, rfl⟩
    have h1 := wt_sz f n
    have h2 := wt_sz g m
    have h3 : wt f n ≤ 17825792 := by omega
    have h4 : wt g m ≤ 17825792 := by omega
    clear h1 h2
    by_cases hw : (1048576 : Int) < ((wt f n : Nat) : Int) + ((wt g m : Nat) : Int)
    · go_wp2_with fail
      go_ret
      exact ⟨rfl, Below.refl _ _⟩
    go_wp2_with fail
    refine (clone_any a1 n c1 f _ hs1 (by omega)).mono ?_
    rintro e w1 ⟨b1, d1, rfl, hd1, hk1, hb1⟩
    go_wp2_with fail
    refine (clone_any a2 m c2 g _ (hs2.below hb1) (by omega)).mono ?_
    rintro e w2 ⟨b2, d2, rfl, hd2, hk2, hb2⟩
    have hk1' := hk1.below hb2
    go_wp2_with fail
    refine (zzholds_any b1 b2 n d1 m d2 f g _ hk1' hk2 hd1 (by omega) (by omega)).mono ?_
    rintro e w3 ⟨rfl, rfl⟩
    go_wp2_with fail
    refine (match_any b1 b2 n d1 m d2 f g _ hk1' hk2 (by omega) (by omega)).mono ?_
    rintro e w3 ⟨rfl, q, rfl⟩
    go_wp2_with fail
    go_ret
    exact ⟨ret_bool (by simp), (hb1.trans (hb2.mono hb1.size)).trans ((below_drewN _ q).mono (Nat.le_trans hb1.size hb2.size))⟩
end Go.Proofs.Qxb6001729aMods
