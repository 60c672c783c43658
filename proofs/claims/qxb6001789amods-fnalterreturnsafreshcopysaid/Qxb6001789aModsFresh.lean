/-
  The walk of FnAlterReturnsAFreshCopy (5).
-/
import Derived.Test.Qxb6001789aModsWalkA
import Derived.Test.Qxb6001789aModsWalkB
namespace Go.Proofs.Qxb6001789aMods
open Go.RowKit

/-- One byte of a row of the call's own, turned. -/
theorem own_flip {w : World} {g n cap : Nat} {f : Nat → Nat} (h : Own w g n cap f) {k : Nat} (hk : k < n) : Own (w.setCell ⟨g, k, none⟩ (.int .u8 ((f k ^^^ 255 : Nat) : Int))) g n cap (fun i => if i = k then f k ^^^ 255 else f i) :=
  h.set k _ (xorff_lt (h.lt hk))

set_option maxHeartbeats 1000000 in
theorem fresh_walk (a : Option Addr) (n c : Nat) (f : Nat → Nat) (w : World) (hs : Byt w a n f) :
    Calls Trym.prog 5 #[.slice a n c] w fun e w' => e = .returned (.bool true) ∧ Below w.heap.size w w' := by
  by_cases hn : (1048576 : Int) < (n : Int)
  · go_enter Trym.func5, Trym.ntmps5
    go_wp2_with fail
    refine (guard15_no a n c _ hn).mono ?_
    rintro e w1 ⟨rfl, rfl⟩
    go_wp2_with fail
    go_ret
    exact ⟨rfl, Below.refl _ _⟩
  have hnb : n ≤ 1048576 := by omega
  have hnd : decide ((1048576 : Int) < (n : Int)) = false := decide_eq_false hn
  go_enter Trym.func5, Trym.ntmps5
  go_wp2_with fail
  refine (guard15_yes a n c _ (by omega)).mono ?_
  rintro e w1 ⟨rfl, rfl⟩
  go_wp2_with fail
  refine (clone_any a n c f _ hs hnb).mono ?_
  rintro e w1 ⟨a1, c1, rfl, hs1, hb1⟩
  go_wp2_with fail
  refine (clone_any a1 n c1 f _ hs1 hnb).mono ?_
  rintro e w2 ⟨a2, c2, rfl, hs2, hb2⟩
  go_wp2_with fail
  have A : Calls Trym.prog 11 #[.slice a1 n c1] w2 fun e w' => ∃ m h, 0 < m ∧ m ≤ 1048576 ∧ Made w2 m h e w' := by
    by_cases h0 : n = 0
    · subst h0
      exact (zzalter_zero a1 c1 w2).mono fun e w' h => ⟨1, _, by omega, by omega, h⟩
    · exact (zzalter_pos a1 n c1 f w2 (hs1.below hb2) (by omega) hnb).mono fun e w' h => ⟨n, _, by omega, by omega, h⟩
  refine A.mono ?_
  rintro e w3 ⟨m, h, hm0, hmb, g, c3, rfl, hg, hO, hb3⟩
  clear A
  have hmz : ((m : Int) == 0) = false := by simp; omega
  have HB := hb1.trans (hb2.mono hb1.size)
  have hs1' := hs1.below hb2
  have hsz := HB.size
  clear hb1 hb2 hs hs1
  go_wp2_with fail
  go_loopw [5] (fun i wr => ∃ (k : Nat) (h : Nat → Nat), k ≤ m ∧ i = .int .i64 k ∧ Own wr g m c3 h ∧ Below w2.heap.size w2 wr) (fun i _ => m - (intOf i).toNat)
  case atStart => exact ⟨0, h, Nat.zero_le _, rfl, hO, hb3⟩
  case round =>
    clear hO hb3
    obtain ⟨k, h, hk, rfl, hO, hb⟩ := hrel
    by_cases hlt : k < m
    · have hce := hO.cell hlt
      have hfr := hO.frozen k
      have hxo := xor_ff (h k) (hO.lt hlt)
      have HO := hideIt (own_flip hO hlt)
      have HB2 := hideIt (hb.setCell (p := ⟨g, k, none⟩) hg (.int .u8 ((h k ^^^ 255 : Nat) : Int)))
      clear hO hb
      go_wp2
      go_roundw
      case rel => exact ⟨k + 1, _, by omega, by go_num, HO.out, HB2.out⟩
      case measure => simp [intOf]; omega
    · have hs1'' := hs1'.below hb
      have hs2'' := hs2.below hb
      have HB3 := HB.trans (hb.mono hsz)
      have hsz3 := HB3.size
      clear hO hb hs1' hs2 HB
      go_wp2_with fail
      refine (same_yes a1 a2 n c1 c2 f f _ hs1'' hs2'' hnb (fun _ _ => rfl)).mono ?_
      rintro e w4 ⟨rfl, hb4⟩
      go_wp2_with fail
      go_ret
      exact ⟨rfl, HB3.trans (hb4.mono hsz3)⟩
end Go.Proofs.Qxb6001789aMods
