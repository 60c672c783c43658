/-
  Walks: the guard on total length (6), hasSpaceByte (7), Op.String (8).
-/
import Derived.Test.Qxb6001800aModsProg
import Derived.Test.Qxb6001800aModsSplit
import Derived.Outline
import Derived.WalkSpells
namespace Go.Proofs.Qxb6001800aMods
open Go.RowKit

/-- It answers a bool. -/
def IsBool (e : Ending) : Prop := ∃ r, e = .returned (.bool r)
theorem IsBool.mk (r : Bool) : IsBool (.returned (.bool r)) := ⟨r, rfl⟩

set_option maxHeartbeats 1000000 in
theorem guard_any (a b c : ByteArray) (w : World) :
    Calls Trym.prog 6 #[.string a, .string b, .string c] w fun e w' => IsBool e ∧ w' = w := by
  go_enter Trym.func6, Trym.ntmps6
  go_wp2
  all_goals (go_ret; exact ⟨IsBool.mk _, rfl⟩)

set_option maxHeartbeats 400000 in
theorem has_any (s : ByteArray) (w : World) (h1 : s.size ≤ 65536) :
    Calls Trym.prog 7 #[.string s] w fun e w' => e = .returned (.bool (hasSp s)) ∧ w' = w := by
  go_enter Trym.func7, Trym.ntmps7
  go_wp2
  go_loop [3] (fun i => ∃ k : Nat, k ≤ s.size ∧ i = .int .i64 k ∧ Hid (anySp (s.data.toList.take k) = false)) (fun i => s.size - (intOf i).toNat)
  case atStart => exact ⟨0, Nat.zero_le _, rfl, rfl⟩
  case round =>
    obtain ⟨k, hk, rfl, hfree⟩ := hrel
    by_cases hlt : k < s.size
    · cases hb : ((s[k].toNat : Int) == 32) with
      | true =>
        have HH := hideIt (any_hit hlt hb)
        go_wp2
        go_ret
        exact ⟨ret_bool HH.out, rfl⟩
      | false =>
        have HG := any_go hlt hb hfree
        go_wp2
        go_round
        case rel => exact ⟨k + 1, by omega, by go_num, HG⟩
        case measure => simp [intOf]; omega
    · go_wp2
      go_ret
      exact ⟨ret_bool (any_none hlt hfree), rfl⟩

/-- hasSpaceByte, its answer named. -/
theorem has_is (s : ByteArray) (w : World) (h1 : s.size ≤ 65536) (r : Bool) (hr : hasSp s = r) :
    Calls Trym.prog 7 #[.string s] w fun e w' => e = .returned (.bool r) ∧ w' = w := by
  subst hr
  exact has_any s w h1

set_option maxHeartbeats 400000 in
theorem string_set (kind key value : ByteArray) (w : World) (h1 : kind.size ≤ 65536) (h2 : key.size ≤ 65536) (h3 : value.size ≤ 65536) (hk : (kind.toList == [115, 101, 116]) = true) :
    Calls Trym.prog 8 #[.agg #[.string kind, .string key, .string value]] w fun e w' => e = .returned (.string (kind ++ (⟨#[32]⟩ : ByteArray) ++ key ++ (⟨#[32]⟩ : ByteArray) ++ value)) ∧ Below w.heap.size w w' := by
  go_enter Trym.func8, Trym.ntmps8
  go_wp2
  go_ret
  exact ⟨rfl, (Below.refl _ _).alloc (Nat.le_refl _) _⟩

set_option maxHeartbeats 400000 in
theorem string_other (kind key value : ByteArray) (w : World) (h1 : kind.size ≤ 65536) (h2 : key.size ≤ 65536) (hk : (kind.toList == [115, 101, 116]) = false) :
    Calls Trym.prog 8 #[.agg #[.string kind, .string key, .string value]] w fun e w' => e = .returned (.string (kind ++ (⟨#[32]⟩ : ByteArray) ++ key)) ∧ Below w.heap.size w w' := by
  go_enter Trym.func8, Trym.ntmps8
  go_wp2
  go_ret
  exact ⟨rfl, (Below.refl _ _).alloc (Nat.le_refl _) _⟩
end Go.Proofs.Qxb6001800aMods
