/-
  Walks: Active (21), Replicas (19), SavingRole (20), ZZSize (18).
-/
import Derived.Test.Qxb6001761aModsProg
import Derived.WalkKit
import Derived.Outline
namespace Go.Proofs.Qxb6001761aMods
open Go.RowKit

theorem hideIt {p : Prop} (h : p) : Hid p := h

/-- The role of id in a cell for f faulty replicas. -/
def role (f id : Int) : Int := if id = 0 then 1 else if id < 2 * f + 1 then 2 else 3

theorem active_any (f : Int) (w : World) (h0 : 0 ≤ f) (h1 : f ≤ 1048576) :
    Calls Trym.prog 21 #[.agg #[.int .i64 f]] w fun e w' => e = .returned (.int .i64 (2 * f + 1)) ∧ Below w.heap.size w w' := by
  go_enter Trym.func21, Trym.ntmps21
  go_wp2
  go_ret
  exact ⟨rfl, (Below.refl _ _).alloc (Nat.le_refl _) _⟩

theorem replicas_any (f : Int) (w : World) (h0 : 0 ≤ f) (h1 : f ≤ 1048576) :
    Calls Trym.prog 19 #[.agg #[.int .i64 f]] w fun e w' => e = .returned (.int .i64 (3 * f + 1)) ∧ Below w.heap.size w w' := by
  go_enter Trym.func19, Trym.ntmps19
  go_wp2
  go_ret
  exact ⟨rfl, (Below.refl _ _).alloc (Nat.le_refl _) _⟩

theorem role_any (f id : Int) (w : World) (h0 : 0 ≤ f) (h1 : f ≤ 1048576) :
    Calls Trym.prog 20 #[.agg #[.int .i64 f], .int .i64 id] w fun e w' => e = .returned (.int .i64 (role f id)) ∧ Below w.heap.size w w' := by
  by_cases hz : id = 0
  · subst hz
    go_enter Trym.func20, Trym.ntmps20
    go_wp2_with fail
    go_ret
    exact ⟨rfl, (Below.refl _ _).alloc (Nat.le_refl _) _⟩
  · have hzb : (id == 0) = false := by simpa using hz
    by_cases hlt : id < 2 * f + 1
    · have HR : Hid (role f id = 2) := by show role f id = 2; simp [role, hz, hlt]
      go_enter Trym.func20, Trym.ntmps20
      go_wp2_with fail
      refine (active_any f _ h0 h1).mono ?_
      rintro e w1 ⟨rfl, hb⟩
      go_wp2_with fail
      go_ret
      refine ⟨?_, ((Below.refl _ _).alloc (Nat.le_refl _) _).trans (hb.mono (by simp))⟩
      rw [HR.out]; rfl
    · have HR : Hid (role f id = 3) := by show role f id = 3; simp [role, hz, hlt]
      go_enter Trym.func20, Trym.ntmps20
      go_wp2_with fail
      refine (active_any f _ h0 h1).mono ?_
      rintro e w1 ⟨rfl, hb⟩
      go_wp2_with fail
      go_ret
      refine ⟨?_, ((Below.refl _ _).alloc (Nat.le_refl _) _).trans (hb.mono (by simp))⟩
      rw [HR.out]; rfl

theorem size_any (f : Int) (w : World) :
    Calls Trym.prog 18 #[.int .i64 f] w fun e w' => e = .returned (.agg #[.int .i64 f]) ∧ Below w.heap.size w w' := by
  go_enter Trym.func18, Trym.ntmps18
  go_wp2
  exact bodyPost_ret (v := .agg #[.int .i64 f]) (by simp [results, Trym.results18, go_sem]) rfl ⟨rfl, (Below.refl _ _).alloc (Nat.le_refl _) _⟩
end Go.Proofs.Qxb6001761aMods
