/-
  The walk of FnSavingRoleMonotoneInId (7).
-/
import Derived.Test.Qxb6001761aModsSizes
namespace Go.Proofs.Qxb6001761aMods
open Go.RowKit

theorem role_range (f id : Int) : 1 ≤ role f id ∧ role f id ≤ 3 := by unfold role; split <;> (try split) <;> omega
theorem role_mono {f a b : Int} (h : a ≤ b) (ha : 0 ≤ a) : role f a ≤ role f b := by
  unfold role
  split <;> split <;> (try split) <;> (try split) <;> omega

set_option maxHeartbeats 1000000 in
theorem mono_walk (f a b : Int) (w : World) :
    Calls Trym.prog 7 #[.int .i64 f, .int .i64 a, .int .i64 b] w fun e w' => e = .returned (.bool true) ∧ Below w.heap.size w w' := by
  by_cases hf0 : f < 0
  · go_enter Trym.func7, Trym.ntmps7
    go_wp2_with fail
    go_ret
    exact ⟨rfl, Below.refl _ _⟩
  by_cases hf1 : 1048576 < f
  · go_enter Trym.func7, Trym.ntmps7
    go_wp2_with fail
    go_ret
    exact ⟨rfl, Below.refl _ _⟩
  by_cases ha0 : a < 0
  · go_enter Trym.func7, Trym.ntmps7
    go_wp2_with fail
    go_ret
    exact ⟨rfl, Below.refl _ _⟩
  by_cases hb0 : b < 0
  · go_enter Trym.func7, Trym.ntmps7
    go_wp2_with fail
    go_ret
    exact ⟨rfl, Below.refl _ _⟩
  by_cases ha1 : 3 * f < a
  · go_enter Trym.func7, Trym.ntmps7
    go_wp2_with fail
    go_ret
    exact ⟨rfl, Below.refl _ _⟩
  by_cases hb1 : 3 * f < b
  · go_enter Trym.func7, Trym.ntmps7
    go_wp2_with fail
    go_ret
    exact ⟨rfl, Below.refl _ _⟩
  by_cases hab : b < a
  · go_enter Trym.func7, Trym.ntmps7
    go_wp2_with fail
    go_ret
    exact ⟨rfl, Below.refl _ _⟩
  go_enter Trym.func7, Trym.ntmps7
  go_wp2_with fail
  refine (size_any f _).mono ?_
  rintro e w1 ⟨rfl, hbl1⟩
  have hz1 := hbl1.size
  go_wp2_with fail
  refine (role_any f a _ (by omega) (by omega)).mono ?_
  rintro e w2 ⟨rfl, hbl2⟩
  have hcell : w2.cell? ⟨w1.heap.size, 0, none⟩ = some (.int .i64 f) := by
    rw [hbl2.cell (by simp)]; simp
  have hra := role_range f a
  have hrb := role_range f b
  have hmo := role_mono (f := f) (show a ≤ b by omega) (by omega)
  obtain ⟨hra1, hra2⟩ := hra
  obtain ⟨hrb1, hrb2⟩ := hrb
  go_wp2_with fail
  refine (role_any f b _ (by omega) (by omega)).mono ?_
  rintro e w3 ⟨rfl, hbl3⟩
  clear hcell
  have HB : Below w.heap.size w w3 := ((hbl1.alloc hz1 _).trans (hbl2.mono (by simp; omega))).trans (hbl3.mono (by have := hbl2.size; simp at this; omega))
  clear hbl1 hbl2 hbl3
  go_wp2_with fail
  go_ret
  exact ⟨by simp, HB⟩
end Go.Proofs.Qxb6001761aMods
