/-
  Walks: zzStringsBytes (10), holdsInOrder (25), ZZholdsInOrder (12).
-/
import Derived.Test.Qxb6001729aModsProg
import Derived.Test.Qxb6001729aModsStrs
import Derived.Outline
import Derived.WalkSpells
namespace Go.Proofs.Qxb6001729aMods
open Go.RowKit

set_option maxHeartbeats 400000 in
theorem weigh_any (a : Option Addr) (n c : Nat) (f : Nat → ByteArray) (w : World) (hs : StrAt w a n f) (hb : n + sz f n ≤ 1048576) :
    Calls Trym.prog 10 #[.slice a n c] w fun e w' => e = .returned (.int .i64 (wt f n : Nat)) ∧ w' = w := by
  rcases hs with rfl | ⟨b, off, rfl, _, hc⟩
  · go_enter Trym.func10, Trym.ntmps10
    go_wp2
    refine wp_loop_rounds 1 ?_; rw [rounds_succ]; go_wp2
    go_ret
    exact ⟨rfl, rfl⟩
  · go_enter Trym.func10, Trym.ntmps10
    go_wp2
    go_loop [3, 4] (fun t i => ∃ k : Nat, k ≤ n ∧ i = .int .i64 k ∧ t = .int .i64 (wt f k : Nat)) (fun _ i => n - (intOf i).toNat)
    case atStart => exact ⟨0, Nat.zero_le _, rfl, rfl⟩
    case round =>
      obtain ⟨k, hk, rfl, rfl⟩ := hrel
      by_cases hlt : k < n
      · have hck := hc k hlt
        have h1 := sz_at f hlt
        have h2 := wt_sz f k
        have H2 : Hid (wt f (k + 1) = wt f k + (16 + (f k).size)) := rfl
        have h3 : wt f k ≤ 16 * 1048576 + 1048576 := by omega
        have h4 : (f k).size ≤ 1048576 := by omega
        clear h1 h2
        go_wp2
        go_round
        case rel => exact ⟨k + 1, by omega, by go_num, by rw [H2.out]; go_num⟩
        case measure => simp [intOf]; omega
      · go_wp2
        obtain rfl : k = n := by omega
        go_ret
        exact ⟨rfl, rfl⟩

/-- The length in a slot that holds a slice. -/
def lenOf : Value → Nat | .slice _ q _ => q | _ => 0

theorem ret_bool {a b : Bool} (h : a = b) : Ending.returned (.bool a) = .returned (.bool b) := by rw [h]

theorem adv_cells {w : World} {f : Nat → ByteArray} {n q b off c1 : Nat} (hn : n ≤ c1) (hc : ∀ i, i < n - q → w.cell? ⟨b, off + i, none⟩ = some (.string (f (q + i)))) :
    q + 1 < n → ∃ b' off', (if c1 - q = 1 then some (⟨b, off, none⟩ : Addr) else some ⟨b, off + 1, none⟩) = some ⟨b', off', none⟩ ∧ ∀ i, i < n - (q + 1) → w.cell? ⟨b', off' + i, none⟩ = some (.string (f (q + 1 + i))) := by
  intro h
  refine ⟨b, off + 1, by rw [if_neg (by omega)], fun i hi => ?_⟩
  have := hc (i + 1) (by omega)
  rw [show off + 1 + i = off + (i + 1) by omega, show q + 1 + i = q + (i + 1) by omega]
  exact this

theorem adv_val (a : Option Addr) (n q c1 : Nat) : Value.slice a (n - q - 1) (c1 - q - 1) = .slice a (n - (q + 1)) (c1 - (q + 1)) := by rw [Nat.sub_sub, Nat.sub_sub]

theorem holds_skip {f g : Nat → ByteArray} {n m q j : Nat} (hq : q < n) (hj : j < m) (hne : ¬ (f q).toList = (g j).toList) (h : Hid (((lst g m).drop j).Sublist ((lst f n).drop q) ↔ (lst g m).Sublist (lst f n))) :
    Hid (((lst g m).drop j).Sublist ((lst f n).drop (q + 1)) ↔ (lst g m).Sublist (lst f n)) := by
  refine Iff.trans ?_ h.out
  rw [lst_drop f hq, lst_drop g hj]
  exact (ne_step hne).symm

theorem holds_take {f g : Nat → ByteArray} {n m q j : Nat} (hq : q < n) (hj : j < m) (he : (f q).toList = (g j).toList) (h : Hid (((lst g m).drop j).Sublist ((lst f n).drop q) ↔ (lst g m).Sublist (lst f n))) :
    Hid (((lst g m).drop (j + 1)).Sublist ((lst f n).drop (q + 1)) ↔ (lst g m).Sublist (lst f n)) := by
  refine Iff.trans ?_ h.out
  rw [lst_drop f hq, lst_drop g hj, he]
  exact List.cons_sublist_cons.symm

theorem holds_no {f g : Nat → ByteArray} {n m q j : Nat} (hq : n ≤ q) (hj : j < m) (h : Hid (((lst g m).drop j).Sublist ((lst f n).drop q) ↔ (lst g m).Sublist (lst f n))) : false = subB f n g m := by
  refine (subB_of _ h.out false ?_).symm
  rw [lst_drop_all f hq, lst_drop g hj]
  simp

theorem holds_yes {f g : Nat → ByteArray} {n m q j : Nat} (hj : m ≤ j) (h : Hid (((lst g m).drop j).Sublist ((lst f n).drop q) ↔ (lst g m).Sublist (lst f n))) : true = subB f n g m := by
  refine (subB_of _ h.out true ?_).symm
  rw [lst_drop_all g hj]
  simp

set_option maxHeartbeats 1000000 in
theorem holds_any (a1 a2 : Option Addr) (n c1 m c2 : Nat) (f g : Nat → ByteArray) (w : World) (hs1 : StrAt w a1 n f) (hs2 : StrAt w a2 m g) (hn : n ≤ c1) (hm : m ≤ 1048576) (hnb : n ≤ 1048576) :
    Calls Trym.prog 25 #[.slice a1 n c1, .slice a2 m c2] w fun e w' => e = .returned (.bool (subB f n g m)) ∧ w' = w := by
  go_enter Trym.func25, Trym.ntmps25
  go_wp2
  go_loop [0, 9] (fun s i => ∃ (j k : Nat) (a : Option Addr), j ≤ m ∧ k ≤ n ∧ i = .int .i64 j ∧ s = .slice a (n - k) (c1 - k) ∧ (k < n → ∃ b off, a = some ⟨b, off, none⟩ ∧ ∀ i, i < n - k → w.cell? ⟨b, off + i, none⟩ = some (.string (f (k + i)))) ∧
      Hid (((lst g m).drop j).Sublist ((lst f n).drop k) ↔ (lst g m).Sublist (lst f n))) (fun _ i => m - (intOf i).toNat)
  case atStart => 
    refine ⟨0, 0, a1, Nat.zero_le _, Nat.zero_le _, rfl, rfl, fun h => ?_, Iff.rfl⟩
    rcases hs1 with h0 | ⟨b, off, rfl, _, hc⟩
    · omega
    · exact ⟨b, off, rfl, fun i hi => by rw [Nat.zero_add]; exact hc i (by omega)⟩
  case round =>
    obtain ⟨j, k, a, hj, hk, rfl, rfl, hac, hiff⟩ := hrel
    by_cases hlt : j < m
    · rcases hs2 with h0 | ⟨b2, off2, rfl, _, hc2⟩
      · omega
      have hcj := hc2 j hlt
      go_wp2
      go_loop [0] (fun s => ∃ (k : Nat) (a : Option Addr), k ≤ n ∧ s = .slice a (n - k) (c1 - k) ∧ (k < n → ∃ b off, a = some ⟨b, off, none⟩ ∧ ∀ i, i < n - k → w.cell? ⟨b, off + i, none⟩ = some (.string (f (k + i)))) ∧
        Hid (((lst g m).drop j).Sublist ((lst f n).drop k) ↔ (lst g m).Sublist (lst f n))) (fun s => lenOf s)
      case atStart => exact ⟨k, a, hk, rfl, hac, hiff⟩
      case round =>
        clear hac hiff hk
        obtain ⟨q, aq, hq, rfl, hac, hiff⟩ := hrel
        by_cases hqn : q < n
        · obtain ⟨b, off, rfl, hc⟩ := hac hqn
          have hc0 := hc 0 (by omega)
          rw [Nat.add_zero, Nat.add_zero] at hc0
          have hl0 : (0 : Int) < ((n - q : Nat) : Int) := by omega
          by_cases heq : (f q).toList = (g j).toList
          · have hnz : (((n - q : Nat) : Int) == 0) = false := by simp; omega
            have hb : ((f q).toList == (g j).toList) = true := by simpa using heq
            have A := adv_cells (c1 := c1) hn hc
            have I := holds_take hqn hlt heq hiff
            have HA := hideIt A
            clear A hac hc heq hiff
            go_wp2
            go_round
            case rel => exact ⟨j + 1, q + 1, _, by omega, by omega, by go_num, adv_val _ _ _ _, HA.out, I⟩
            case measure => simp [intOf]; omega
          · have hb : ((f q).toList == (g j).toList) = false := by simpa using heq
            have A := adv_cells (c1 := c1) hn hc
            have I := holds_skip hqn hlt heq hiff
            have HA := hideIt A
            clear A hac hc heq hiff
            go_wp2
            go_round
            case rel => exact ⟨q + 1, _, by omega, adv_val _ _ _ _, HA.out, I⟩
            case measure => simp [lenOf]; omega
        · obtain rfl : q = n := by omega
          have hz : ((q - q : Nat) : Int) = 0 := by simp
          go_wp2
          go_ret
          exact ⟨ret_bool (holds_no (Nat.le_refl _) hlt hiff), rfl⟩
    · go_wp2
      go_ret
      exact ⟨ret_bool (holds_yes (by omega) hiff), rfl⟩

theorem zzholds_any (a1 a2 : Option Addr) (n c1 m c2 : Nat) (f g : Nat → ByteArray) (w : World) (hs1 : StrAt w a1 n f) (hs2 : StrAt w a2 m g) (hn : n ≤ c1) (hm : m ≤ 1048576) (hnb : n ≤ 1048576) :
    Calls Trym.prog 12 #[.slice a1 n c1, .slice a2 m c2] w fun e w' => e = .returned (.bool (subB f n g m)) ∧ w' = w := by
  have H := holds_any a1 a2 n c1 m c2 f g w hs1 hs2 hn hm hnb
  go_enter Trym.func12, Trym.ntmps12
  go_wp2_with (go_at_call 25; refine H.mono ?_; rintro e w' ⟨rfl, rfl⟩)
  go_ret
  exact ⟨rfl, rfl⟩
end Go.Proofs.Qxb6001729aMods
