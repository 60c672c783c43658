/-
  Walks: popCount at 0 and at 1 (22), bitDistance where one bit parts the two (14); the walk of FnAlterDiffersByOneBit (4).
-/
import Derived.Test.Qxb6001789aModsWalkA
import Derived.Test.Qxb6001789aModsWalkB
import Derived.BigQuiet
namespace Go.Proofs.Qxb6001789aMods
open Go.RowKit

theorem pop_zero (w : World) : Calls Trym.prog 22 #[.int .u8 0] w fun e w' => e = .returned (.int .i64 0) ∧ w' = w := by
  go_enter Trym.func22, Trym.ntmps22
  go_wp2
  refine wp_loop_rounds 1 ?_; rw [rounds_succ]; go_wp2
  go_ret
  exact ⟨rfl, rfl⟩

theorem pop_one (w : World) : Calls Trym.prog 22 #[.int .u8 1] w fun e w' => e = .returned (.int .i64 1) ∧ w' = w := by
  have hand : bits BinOp.and IntKind.u8 1 1 = 1 := by decide
  go_enter Trym.func22, Trym.ntmps22
  go_wp2
  refine wp_loop_rounds 2 ?_; rw [rounds_succ]; go_wp2
  rw [rounds_succ]; go_wp2
  go_ret
  exact ⟨rfl, rfl⟩

/-- How many bits part the first k of n bytes where the last ones alone part, by one bit. -/
def sumAt (n k : Nat) : Int := if k = n then 1 else 0

theorem xor_same (a : Nat) (h : a < 256) : bits .xor .u8 (a : Int) (a : Int) = 0 := by
  rw [u8_xor_nat a a h h, Nat.xor_self]; rfl
theorem xor_alt (a : Nat) (h : a < 256) : bits .xor .u8 ((a ^^^ 1 : Nat) : Int) (a : Int) = 1 := by
  rw [u8_xor_nat _ _ (xor1_lt h) h, Nat.xor_comm (a ^^^ 1) a, ← Nat.xor_assoc, Nat.xor_self, Nat.zero_xor]; rfl

set_option maxHeartbeats 1000000 in
theorem dist_one (a1 a2 : Option Addr) (n c1 c2 : Nat) (f : Nat → Nat) (w : World) (hs1 : Byt w a1 n (alt n f)) (hs2 : Byt w a2 n f) (hn0 : 0 < n) (hn : n ≤ 1048576) :
    Calls Trym.prog 14 #[.slice a1 n c1, .slice a2 n c2] w fun e w' => e = .returned (.int .i64 1) ∧ Below w.heap.size w w' := by
  go_enter Trym.func14, Trym.ntmps14
  go_wp2
  go_loopw [5, 6] (fun s i wr => ∃ k : Nat, k ≤ n ∧ i = .int .i64 k ∧ s = .int .i64 (sumAt n k) ∧ Below w.heap.size w wr) (fun _ i _ => n - (intOf i).toNat)
  case atStart => exact ⟨0, Nat.zero_le _, rfl, by simp [sumAt]; omega, Below.refl _ _⟩
  case round =>
    obtain ⟨k, hk, rfl, rfl, hbl⟩ := hrel
    have hsz := hbl.size
    have hs1 := hs1.below hbl
    have hs2 := hs2.below hbl
    rcases hs1 with h0 | ⟨b1, o1, rfl, _, hc1⟩
    · omega
    rcases hs2 with h0 | ⟨b2, o2, rfl, _, hc2⟩
    · omega
    by_cases hlt : k < n
    · have h1 := (hc1 k hlt).1
      have h2 := (hc2 k hlt).1
      have h3 := (hc2 k hlt).2
      have hlt' : (k : Int) < (n : Int) := by omega
      have hs0 : sumAt n k = 0 := by unfold sumAt; rw [if_neg (by omega)]
      clear hc1 hc2
      by_cases hl : k + 1 = n
      · have e1 : alt n f k = f k ^^^ 1 := by unfold alt; rw [if_pos hl]
        rw [e1] at h1
        have hx := xor_alt (f k) h3
        have HS : Hid (sumAt n (k + 1) = 1) := by show sumAt n (k + 1) = 1; unfold sumAt; rw [if_pos hl]
        clear e1
        go_wp2
        go_quiet ((go_at_call 22; exact Calls.quiet_of_same (pop_one _)))
        go_wp2
        go_roundw
        case rel => exact ⟨k + 1, by omega, by go_num, by rw [HS.out], hbl.trans ((below_drewN _ _).mono hsz)⟩
        case measure => simp [intOf]; omega
      · have e1 : alt n f k = f k := by unfold alt; rw [if_neg hl]
        rw [e1] at h1
        have hx := xor_same (f k) h3
        have HS : Hid (sumAt n (k + 1) = 0) := by show sumAt n (k + 1) = 0; unfold sumAt; rw [if_neg hl]
        clear e1
        go_wp2
        go_quiet ((go_at_call 22; exact Calls.quiet_of_same (pop_zero _)))
        go_wp2
        go_roundw
        case rel => exact ⟨k + 1, by omega, by go_num, by rw [HS.out], hbl.trans ((below_drewN _ _).mono hsz)⟩
        case measure => simp [intOf]; omega
    · have hs1 : sumAt n k = 1 := by unfold sumAt; rw [if_pos (by omega)]
      go_wp2
      go_ret
      exact ⟨by simp [hs1], hbl⟩

set_option maxHeartbeats 1000000 in
theorem differs_walk (a : Option Addr) (n c : Nat) (f : Nat → Nat) (w : World) (hs : Byt w a n f) :
    Calls Trym.prog 4 #[.slice a n c] w fun e w' => e = .returned (.bool true) ∧ Below w.heap.size w w' := by
  by_cases hn : (1048576 : Int) < (n : Int)
  · go_enter Trym.func4, Trym.ntmps4
    go_wp2_with fail
    refine (guard13_no a n c _ hn).mono ?_
    rintro e w1 ⟨rfl, rfl⟩
    go_wp2_with fail
    go_ret
    exact ⟨rfl, Below.refl _ _⟩
  have hnb : n ≤ 1048576 := by omega
  by_cases h0 : n = 0
  · subst h0
    go_enter Trym.func4, Trym.ntmps4
    go_wp2_with fail
    refine (guard13_yes a 0 c _ (by omega)).mono ?_
    rintro e w1 ⟨rfl, rfl⟩
    go_wp2_with fail
    refine (clone_any a 0 c f _ hs hnb).mono ?_
    rintro e w1 ⟨a1, c1, rfl, hs1, hb1⟩
    go_wp2_with fail
    refine (zzalter_zero a1 c1 _).mono ?_
    rintro e w2 ⟨g2, c2, rfl, hg2, hO2, hb2⟩
    have hce := hO2.cell (show 0 < 1 by omega)
    have HB := hb1.trans (hb2.mono hb1.size)
    clear hb1 hb2 hO2
    go_wp2_with fail
    go_ret
    exact ⟨rfl, HB⟩
  have hnz : ((n : Int) == 0) = false := by simp; omega
  have hn0 : 0 < n := by omega
  go_enter Trym.func4, Trym.ntmps4
  go_wp2_with fail
  refine (guard13_yes a n c _ (by omega)).mono ?_
  rintro e w1 ⟨rfl, rfl⟩
  go_wp2_with fail
  refine (clone_any a n c f _ hs hnb).mono ?_
  rintro e w1 ⟨a1, c1, rfl, hs1, hb1⟩
  go_wp2_with fail
  refine (zzalter_pos a1 n c1 f _ hs1 hn0 hnb).mono ?_
  rintro e w2 ⟨g2, c2, rfl, hg2, hO2, hb2⟩
  have HB := hb1.trans (hb2.mono hb1.size)
  have hs1' := hs1.below hb2
  have hsz := HB.size
  clear hb1 hb2 hs hs1
  go_wp2_with fail
  refine (dist_one _ a1 n c2 c1 f _ hO2.byt hs1' hn0 hnb).mono ?_
  rintro e w3 ⟨rfl, hb3⟩
  go_wp2_with fail
  go_ret
  exact ⟨rfl, HB.trans (hb3.mono hsz)⟩
end Go.Proofs.Qxb6001789aMods
