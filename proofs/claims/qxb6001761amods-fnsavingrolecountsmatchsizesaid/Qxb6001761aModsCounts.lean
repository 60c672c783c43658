/-
  The walk of FnSavingRoleCountsMatchSize (6).
-/
import Derived.Test.Qxb6001761aModsSizes
namespace Go.Proofs.Qxb6001761aMods
open Go.RowKit

/-- Of the first k ids: leaders, followers, passives. -/
def ld (k : Nat) : Int := if k = 0 then 0 else 1
def fo (f k : Nat) : Int := if k = 0 then 0 else if k ≤ 2 * f + 1 then (k : Int) - 1 else 2 * (f : Int)
def pa (f k : Nat) : Int := if k ≤ 2 * f + 1 then 0 else (k : Int) - (2 * f + 1)

theorem ld_le (k : Nat) : 0 ≤ ld k ∧ ld k ≤ 1 := by unfold ld; split <;> omega
theorem fo_le {f k : Nat} (h : f ≤ 65536) : 0 ≤ fo f k ∧ fo f k ≤ 131072 := by unfold fo; split <;> (try split) <;> omega
theorem pa_le {f k : Nat} (hk : k ≤ 3 * f + 1) : 0 ≤ pa f k ∧ pa f k ≤ f := by unfold pa; split <;> omega

/-- SavingRole, its answer named. -/
theorem role_is (f id : Int) (w : World) (h0 : 0 ≤ f) (h1 : f ≤ 1048576) (r : Int) (hr : role f id = r) :
    Calls Trym.prog 20 #[.agg #[.int .i64 f], .int .i64 id] w fun e w' => e = .returned (.int .i64 r) ∧ Below w.heap.size w w' := by
  subst hr
  exact role_any f id w h0 h1

theorem step0 (f : Nat) : ld (0 + 1) = ld 0 + 1 ∧ fo f (0 + 1) = fo f 0 ∧ pa f (0 + 1) = pa f 0 := by simp [ld, fo, pa]
theorem step1 {f k : Nat} (h0 : 0 < k) (h : k ≤ 2 * f) : ld (k + 1) = ld k ∧ fo f (k + 1) = fo f k + 1 ∧ pa f (k + 1) = pa f k := by
  refine ⟨?_, ?_, ?_⟩
  · unfold ld; rw [if_neg (by omega), if_neg (by omega)]
  · unfold fo; rw [if_neg (by omega), if_pos (by omega), if_neg (by omega), if_pos (by omega)]; omega
  · unfold pa; rw [if_pos (by omega), if_pos (by omega)]
theorem step2 {f k : Nat} (h : 2 * f < k) : ld (k + 1) = ld k ∧ fo f (k + 1) = fo f k ∧ pa f (k + 1) = pa f k + 1 := by
  refine ⟨?_, ?_, ?_⟩
  · unfold ld; rw [if_neg (by omega), if_neg (by omega)]
  · unfold fo; rw [if_neg (by omega), if_neg (by omega), if_neg (by omega)]; split <;> omega
  · unfold pa; rw [if_neg (by omega)]; split <;> omega
theorem at_end (f : Nat) : ld (3 * f + 1) = 1 ∧ fo f (3 * f + 1) = 2 * f ∧ pa f (3 * f + 1) = f := by
  refine ⟨?_, ?_, ?_⟩
  · unfold ld; rw [if_neg (by omega)]
  · unfold fo; rw [if_neg (by omega)]; split <;> omega
  · unfold pa; split <;> omega

theorem role0 (f : Nat) : role f ((0 : Nat) : Int) = 1 := by simp [role]
theorem role1 {f k : Nat} (h0 : 0 < k) (h : k ≤ 2 * f) : role f (k : Int) = 2 := by unfold role; rw [if_neg (by omega), if_pos (by omega)]
theorem role2 {f k : Nat} (h : 2 * f < k) : role f (k : Int) = 3 := by unfold role; rw [if_neg (by omega), if_neg (by omega)]

set_option maxHeartbeats 2000000 in
theorem counts_walk (f : Int) (w : World) :
    Calls Trym.prog 6 #[.int .i64 f] w fun e w' => e = .returned (.bool true) ∧ Below w.heap.size w w' := by
  by_cases hf0 : f < 0
  · go_enter Trym.func6, Trym.ntmps6
    go_wp2_with fail
    go_ret
    exact ⟨rfl, Below.refl _ _⟩
  by_cases hf1 : 65536 < f
  · go_enter Trym.func6, Trym.ntmps6
    go_wp2_with fail
    go_ret
    exact ⟨rfl, Below.refl _ _⟩
  obtain ⟨f, rfl⟩ := Int.eq_ofNat_of_zero_le (show 0 ≤ f by omega)
  have hfn : f ≤ 65536 := by omega
  have hd0 : decide ((f : Int) < 0) = false := decide_eq_false hf0
  have hd1 : decide ((65536 : Int) < (f : Int)) = false := decide_eq_false hf1
  go_enter Trym.func6, Trym.ntmps6
  go_wp2_with fail
  refine (size_any f _).mono ?_
  rintro e w1 ⟨rfl, hbl1⟩
  have hz1 := hbl1.size
  go_wp2_with fail
  clear hd0 hd1 hf0 hf1
  go_loopw [4, 5, 6, 7, 8] (fun l o p z i wr => ∃ k : Nat, k ≤ 3 * f + 1 ∧ i = .int .i64 k ∧ l = .int .i64 (ld k) ∧ o = .int .i64 (fo f k) ∧ p = .int .i64 (pa f k) ∧ z = .int .i64 0 ∧ Below (w1.heap.size + 1) (w1.alloc (.cells #[.int .i64 f] 34)) wr)
    (fun _ _ _ _ i _ => 3 * f + 1 - (intOf i).toNat)
  case atStart => exact ⟨0, Nat.zero_le _, rfl, by simp [ld], by simp [fo], by simp [pa], rfl, Below.refl _ _⟩
  case round =>
    obtain ⟨k, hk, rfl, rfl, rfl, rfl, rfl, hbl⟩ := hrel
    have hcell : wr.cell? ⟨w1.heap.size, 0, none⟩ = some (.int .i64 f) := by
      rw [hbl.cell (by simp)]; simp
    have hwz : w1.heap.size < wr.heap.size := by have := hbl.size; simp at this; omega
    go_wp2_with fail
    refine (replicas_any f _ (by omega) (by omega)).mono ?_
    rintro e w2 ⟨rfl, hb2⟩
    have hcell2 : w2.cell? ⟨w1.heap.size, 0, none⟩ = some (.int .i64 f) := by
      rw [hb2.cell (by simpa using hwz)]; exact hcell
    have hz2 := hb2.size
    have HB2 := hbl.trans (hb2.mono (by omega))
    clear hcell hbl hb2
    obtain ⟨hl1, hl2⟩ := ld_le k
    obtain ⟨ho1, ho2⟩ := fo_le (k := k) hfn
    obtain ⟨hp1, hp2⟩ := pa_le hk
    by_cases hlt : k < 3 * f + 1
    · rcases (show k = 0 ∨ (0 < k ∧ k ≤ 2 * f) ∨ 2 * f < k by omega) with h | ⟨h, h'⟩ | h
      · subst h
        have S := hideIt (step0 f)
        go_wp2_with fail
        refine (role_is f _ _ (by omega) (by omega) 1 (role0 f)).mono ?_
        rintro e w3 ⟨rfl, hb3⟩
        have HB3 := HB2.trans (hb3.mono (by omega))
        clear hb3 HB2 hcell2
        go_wp2_with fail
        go_roundw
        case rel => exact ⟨0 + 1, by omega, by go_num, by rw [S.out.1], by rw [S.out.2.1], by rw [S.out.2.2], rfl, HB3⟩
        case measure => simp [intOf]
      · have S := hideIt (step1 h h')
        go_wp2_with fail
        refine (role_is f _ _ (by omega) (by omega) 2 (role1 h h')).mono ?_
        rintro e w3 ⟨rfl, hb3⟩
        have HB3 := HB2.trans (hb3.mono (by omega))
        clear hb3 HB2 hcell2
        go_wp2_with fail
        go_roundw
        case rel => exact ⟨k + 1, by omega, by go_num, by rw [S.out.1], by rw [S.out.2.1], by rw [S.out.2.2], rfl, HB3⟩
        case measure => simp [intOf]; omega
      · have S := hideIt (step2 h)
        go_wp2_with fail
        refine (role_is f _ _ (by omega) (by omega) 3 (role2 h)).mono ?_
        rintro e w3 ⟨rfl, hb3⟩
        have HB3 := HB2.trans (hb3.mono (by omega))
        clear hb3 HB2 hcell2
        go_wp2_with fail
        go_roundw
        case rel => exact ⟨k + 1, by omega, by go_num, by rw [S.out.1], by rw [S.out.2.1], by rw [S.out.2.2], rfl, HB3⟩
        case measure => simp [intOf]; omega
    · have E : ld k = 1 ∧ fo f k = 2 * f ∧ pa f k = f := by
        obtain rfl : k = 3 * f + 1 := by omega
        exact at_end f
      obtain ⟨e1, e2, e3⟩ := E
      go_wp2_with fail
      refine (active_any f _ (by omega) (by omega)).mono ?_
      rintro e w3 ⟨rfl, hb3⟩
      have hcell3 : w3.cell? ⟨w1.heap.size, 0, none⟩ = some (.int .i64 f) := by
        rw [hb3.cell (by show w1.heap.size < w2.heap.size; omega)]; exact hcell2
      have hz3 := hb3.size
      have HB3 := HB2.trans (hb3.mono (by omega))
      clear hb3 HB2 hcell2
      go_wp2_with fail
      refine (role_is f 0 _ (by omega) (by omega) 1 (role0 f)).mono ?_
      rintro e w4 ⟨rfl, hb4⟩
      have HB4 : Below w.heap.size w w4 := (hbl1.alloc hz1 _).trans ((HB3.trans (hb4.mono (by omega))).mono (by omega))
      clear hb4 HB3 hcell3
      go_wp2_with fail
      go_ret
      exact ⟨rfl, HB4⟩
end Go.Proofs.Qxb6001761aMods
