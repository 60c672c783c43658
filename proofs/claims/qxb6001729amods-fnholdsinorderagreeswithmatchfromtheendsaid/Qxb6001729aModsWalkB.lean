/-
  Walks: matchFromTheEnd (13), zzBytes_.. (9, 15).
-/
import Derived.Test.Qxb6001729aModsProg
import Derived.Test.Qxb6001729aModsStrs
import Derived.Test.Qxb6001729aModsWalkA
import Derived.Outline
import Derived.WalkSpells
import Derived.Deep.QuietTactic
import Derived.BigQuiet
namespace Go.Proofs.Qxb6001729aMods
open Go.RowKit

theorem back_skip {f g : Nat → ByteArray} {n m k l : Nat} (hk0 : 0 < k) (hk : k ≤ n) (hl0 : 0 < l) (hl : l ≤ m) (hne : ¬ (f (k - 1)).toList = (g (l - 1)).toList) (h : Hid (((lst g m).take l).Sublist ((lst f n).take k) ↔ (lst g m).Sublist (lst f n))) :
    Hid (((lst g m).take l).Sublist ((lst f n).take (k - 1)) ↔ (lst g m).Sublist (lst f n)) := by
  refine Iff.trans ?_ h.out
  obtain ⟨k, rfl⟩ : ∃ k', k = k' + 1 := ⟨k - 1, by omega⟩
  obtain ⟨l, rfl⟩ : ∃ l', l = l' + 1 := ⟨l - 1, by omega⟩
  simp only [Nat.add_sub_cancel] at hne ⊢
  rw [lst_take f (show k < n by omega), lst_take g (show l < m by omega)]
  exact (ne_step_end hne).symm

theorem back_take {f g : Nat → ByteArray} {n m k l : Nat} (hk0 : 0 < k) (hk : k ≤ n) (hl0 : 0 < l) (hl : l ≤ m) (he : (f (k - 1)).toList = (g (l - 1)).toList) (h : Hid (((lst g m).take l).Sublist ((lst f n).take k) ↔ (lst g m).Sublist (lst f n))) :
    Hid (((lst g m).take (l - 1)).Sublist ((lst f n).take (k - 1)) ↔ (lst g m).Sublist (lst f n)) := by
  refine Iff.trans ?_ h.out
  obtain ⟨k, rfl⟩ : ∃ k', k = k' + 1 := ⟨k - 1, by omega⟩
  obtain ⟨l, rfl⟩ : ∃ l', l = l' + 1 := ⟨l - 1, by omega⟩
  simp only [Nat.add_sub_cancel] at he ⊢
  rw [lst_take f (show k < n by omega), lst_take g (show l < m by omega), he]
  exact eq_step_end.symm

theorem back_no {f g : Nat → ByteArray} {n m l : Nat} (hl0 : 0 < l) (hl : l ≤ m) (h : Hid (((lst g m).take l).Sublist ((lst f n).take 0) ↔ (lst g m).Sublist (lst f n))) : false = subB f n g m := by
  refine (subB_of _ h.out false ?_).symm
  obtain ⟨l, rfl⟩ : ∃ l', l = l' + 1 := ⟨l - 1, by omega⟩
  rw [lst_take g (show l < m by omega)]
  simp

theorem back_yes {f g : Nat → ByteArray} {n m k : Nat} (h : Hid (((lst g m).take 0).Sublist ((lst f n).take k) ↔ (lst g m).Sublist (lst f n))) : true = subB f n g m := by
  refine (subB_of _ h.out true ?_).symm
  simp

set_option maxHeartbeats 1000000 in
theorem match_any (a1 a2 : Option Addr) (n c1 m c2 : Nat) (f g : Nat → ByteArray) (w : World) (hs1 : StrAt w a1 n f) (hs2 : StrAt w a2 m g) (hm : m ≤ 1048576) (hnb : n ≤ 1048576) :
    Calls Trym.prog 13 #[.slice a1 n c1, .slice a2 m c2] w fun e w' => e = .returned (.bool (subB f n g m)) ∧ ∃ q, w' = w.drewN q := by
  go_enter Trym.func13, Trym.ntmps13
  go_wp2
  go_loopw [5, 6] (fun i j wr => ∃ (k l q : Nat), k ≤ n ∧ l ≤ m ∧ i = .int .i64 k ∧ j = .int .i64 l ∧ wr = w.drewN q ∧ 
      Hid (((lst g m).take l).Sublist ((lst f n).take k) ↔ (lst g m).Sublist (lst f n))) (fun _ j _ => (intOf j).toNat)
  case atStart => exact ⟨n, m, 0, Nat.le_refl _, Nat.le_refl _, rfl, rfl, rfl, by rw [List.take_of_length_le (by simp [lst_length]), List.take_of_length_le (by simp [lst_length])]; exact Iff.rfl⟩
  case round =>
    obtain ⟨k, l, q, hk, hl, rfl, rfl, rfl, hiff⟩ := hrel
    by_cases hl0 : 0 < l
    · have hl0' : (0 : Int) < (l : Int) := by omega
      rcases hs2 with h0 | ⟨b2, off2, rfl, _, hc2⟩
      · omega
      have hcl := hc2 (l - 1) (by omega)
      go_wp2
      go_loopw [5] (fun i wr => ∃ (k q : Nat), k ≤ n ∧ i = .int .i64 k ∧ wr = w.drewN q ∧ 
        Hid (((lst g m).take l).Sublist ((lst f n).take k) ↔ (lst g m).Sublist (lst f n))) (fun i _ => (intOf i).toNat)
      case atStart => exact ⟨k, q, hk, rfl, rfl, hiff⟩
      case round =>
        clear hiff hk
        obtain ⟨k, q, hk, rfl, rfl, hiff⟩ := hrel
        by_cases hk0 : 0 < k
        · have hk0' : (0 : Int) < (k : Int) := by omega
          rcases hs1 with h0 | ⟨b1, off1, rfl, _, hc1⟩
          · omega
          have hck := hc1 (k - 1) (by omega)
          by_cases heq : (f (k - 1)).toList = (g (l - 1)).toList
          · have hnz : ((k : Int) == 0) = false := by simp; omega
            have hb : ((f (k - 1)).toList == (g (l - 1)).toList) = true := by simpa using heq
            have I := back_take hk0 hk hl0 hl heq hiff
            clear heq hiff
            go_wp2
            go_quiet (fail)
            go_wp2
            go_roundw
            case rel => exact ⟨k - 1, l - 1, _, by omega, by omega, by go_num, by go_num, rfl, I⟩
            case measure => simp [intOf]; omega
          · have hb : ((f (k - 1)).toList == (g (l - 1)).toList) = false := by simpa using heq
            have I := back_skip hk0 hk hl0 hl heq hiff
            clear heq hiff
            go_wp2
            go_quiet (fail)
            go_wp2
            go_roundw
            case rel => exact ⟨k - 1, _, by omega, by go_num, rfl, I⟩
            case measure => simp [intOf]; omega
        · obtain rfl : k = 0 := by omega
          have hd : decide ((0 : Int) < ((0 : Nat) : Int)) = false := by simp
          go_wp2
          go_quiet (fail)
          go_wp2
          go_ret
          exact ⟨ret_bool (back_no hl0 hl hiff), _, rfl⟩
    · obtain rfl : l = 0 := by omega
      go_wp2
      go_ret
      exact ⟨ret_bool (back_yes hiff), _, rfl⟩
end Go.Proofs.Qxb6001729aMods
