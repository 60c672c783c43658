/-
  Walks: zzBytes_.. (9, 15): the guards on total length.
-/
import Derived.Test.Qxb6001729aModsProg
import Derived.Test.Qxb6001729aModsStrs
import Derived.Outline
import Derived.WalkSpells
namespace Go.Proofs.Qxb6001729aMods
open Go.RowKit

/-- It answers a bool, and where that is true P holds. -/
def Guard (P : Prop) (e : Ending) : Prop := ∃ r, e = .returned (.bool r) ∧ (r = true → P)
theorem Guard.no {P : Prop} : Guard P (.returned (.bool false)) := ⟨false, rfl, fun h => by cases h⟩
theorem Guard.yes {P : Prop} (h : P) : Guard P (.returned (.bool true)) := ⟨true, rfl, fun _ => h⟩

set_option maxHeartbeats 1000000 in
theorem bytes9_any (a1 a2 : Option Addr) (n c1 m c2 : Nat) (f g : Nat → ByteArray) (w : World) (hs1 : StrAt w a1 n f) (hs2 : StrAt w a2 m g) :
    Calls Trym.prog 9 #[.slice a1 n c1, .slice a2 m c2] w fun e w' => Guard (n + m + sz f n + sz g m ≤ 1048576) e ∧ w' = w := by
  by_cases hn : (1048576 : Int) < (n : Int)
  · go_enter Trym.func9, Trym.ntmps9
    go_wp2
    go_ret
    exact ⟨Guard.no, rfl⟩
  · go_enter Trym.func9, Trym.ntmps9
    go_wp2
    go_loop [5, 6] (fun t i => ∃ k : Nat, k ≤ n ∧ i = .int .i64 k ∧ t = .int .i64 ((n + sz f k : Nat) : Int) ∧ n + sz f k ≤ 1048576) (fun _ i => n - (intOf i).toNat)
    case atStart => exact ⟨0, Nat.zero_le _, rfl, by simp [sz], by simp [sz]; omega⟩
    case round =>
      obtain ⟨k, hk, rfl, rfl, hkb⟩ := hrel
      by_cases hlt : k < n
      · rcases hs1 with h0 | ⟨b, off, rfl, _, hc⟩
        · omega
        have hck := hc k hlt
        have H2 : Hid (sz f (k + 1) = sz f k + (f k).size) := rfl
        go_wp2
        · go_ret
          exact ⟨Guard.no, rfl⟩
        · go_ret
          exact ⟨Guard.no, rfl⟩
        · go_round
          case rel => exact ⟨k + 1, by omega, by go_num, by rw [H2.out]; go_num, by rw [H2.out]; omega⟩
          case measure => simp [intOf]; omega
      · obtain rfl : k = n := by omega
        clear hlt hk
        by_cases hm : (1048576 : Int) < (m : Int)
        · go_wp2
          go_ret
          exact ⟨Guard.no, rfl⟩
        · by_cases hm2 : (1048576 : Int) < ((k + sz f k : Nat) : Int) + (m : Int)
          · go_wp2
            go_ret
            exact ⟨Guard.no, rfl⟩
          · go_wp2
            go_loop [5, 7] (fun t i => ∃ l : Nat, l ≤ m ∧ i = .int .i64 l ∧ t = .int .i64 ((k + sz f k + m + sz g l : Nat) : Int) ∧ k + sz f k + m + sz g l ≤ 1048576) (fun _ i => m - (intOf i).toNat)
            case atStart => exact ⟨0, Nat.zero_le _, rfl, by simp [sz], by simp [sz]; omega⟩
            case round =>
              obtain ⟨l, hl, rfl, rfl, hlb⟩ := hrel
              by_cases hlt : l < m
              · rcases hs2 with h0 | ⟨b, off, rfl, _, hc⟩
                · omega
                have hck := hc l hlt
                have H2 : Hid (sz g (l + 1) = sz g l + (g l).size) := rfl
                go_wp2
                · go_ret
                  exact ⟨Guard.no, rfl⟩
                · go_ret
                  exact ⟨Guard.no, rfl⟩
                · go_round
                  case rel => exact ⟨l + 1, by omega, by go_num, by rw [H2.out]; go_num, by rw [H2.out]; omega⟩
                  case measure => simp [intOf]; omega
              · obtain rfl : l = m := by omega
                go_wp2
                go_ret
                exact ⟨Guard.yes (by omega), rfl⟩
end Go.Proofs.Qxb6001729aMods
