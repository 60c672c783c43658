/-
  Walk: splitOnSpace (9).
-/
import Derived.Test.Qxb6001800aModsProg
import Derived.Test.Qxb6001800aModsSplit
import Derived.Outline
import Derived.WalkSpells
namespace Go.Proofs.Qxb6001800aMods
open Go.RowKit

theorem Trym.info9 : (Trym.prog.info? 9).map (fun i => (i.zero, i.size, i.bytes)) = some (some (.string ByteArray.empty), 1, 16) := by kernel_rfl

/-- What splitOnSpace leaves: the parts, in memory of its own; nothing that was there has turned. -/
def Splits (w : World) (s : ByteArray) (e : Ending) (w' : World) : Prop :=
  ∃ v P, e = .returned v ∧ w'.ownsRow w.heap.size 9 1 v P.length (P.map Value.string) ∧ byts P = spl s.data.toList ∧ Below w.heap.size w w'

/-- The parts so far, owned. -/
structure Rel (w : World) (P : List ByteArray) (v : Value) (wr : World) : Prop where
  own : wr.ownsRow w.heap.size 9 1 v P.length (P.map Value.string)
  below : Below w.heap.size w wr

theorem rel_start (w : World) : Rel w [] (.slice none 0 0) w := ⟨World.ownsRow_nil _ _ _ _, Below.refl _ _⟩

theorem rel_step {w wr w1 : World} {P : List ByteArray} {v v' : Value} {x : ByteArray} {o : Obj} (h : Rel w P v wr)
    (hown : w1.ownsRow w.heap.size 9 1 v' (P.length + 1) (P.map Value.string ++ [.string x])) (hg : (wr.alloc o).grownBy w1 v.ownBlock) : Rel w (P ++ [x]) v' w1 := by
  refine ⟨by simpa using hown, (h.below.alloc h.below.size o).grown hg (by have := h.below.size; simp; omega) ?_⟩
  intro k hk
  obtain ⟨_, h2⟩ := h.own
  rcases h2 with ⟨rfl, _⟩ | ⟨g, cap, cur, rfl, hb, _⟩
  · simp [Value.ownBlock] at hk
  · simp only [Value.ownBlock, Option.some.injEq] at hk
    omega

set_option maxHeartbeats 1000000 in
theorem split_any (s : ByteArray) (w : World) (hs : s.size ≤ 1048576) :
    Calls Trym.prog 9 #[.string s] w fun e w' => Splits w s e w' := by
  obtain ⟨i0, hi, hz0, hz1, hz2⟩ := info_parts Trym.info9
  go_enter Trym.func9, Trym.ntmps9
  go_wp2
  go_loopw [3, 4, 5] (fun v st i wr => ∃ (k t : Nat) (P : List ByteArray), k ≤ s.size ∧ i = .int .i64 k ∧ st = .int .i64 t ∧ Cut s k t P ∧ Rel w P v wr) (fun _ _ i _ => s.size - (intOf i).toNat)
  case atStart => exact ⟨0, 0, [], Nat.zero_le _, rfl, rfl, cut_start s, rel_start w⟩
  case round =>
    obtain ⟨k, t, P, hk, rfl, rfl, hcut, hR⟩ := hrel
    have htk := hcut.le
    have hfew := hcut.few
    by_cases hlt : k < s.size
    · cases hb : ((s[k].toNat : Int) == 32) with
      | true =>
        have HC := hideIt (cut_hit hcut hlt hb)
        have hO := hideIt (hR.own.alloc (.cells #[.string (s.extract t k)] 9))
        have hbs := hR.below.size
        go_wp2_with (at_builtin; refine wpList_append_own _ rfl (.tmp 16) (.tmp 21) 28 rfl w.heap.size 9 i0 (.string ByteArray.empty) 1 16 Trym.underlying28 hi hz0 hz1 hz2 rfl (by decide) _ _ _ rfl hO.out ⟨wr.heap.size, 0, none⟩ 1 1 [.string (s.extract t k)] rfl rfl (cell_one_new _ _ _) (by intro u hu; simp at hu; subst hu; rfl) (by unfold maxLen; omega) (by omega) (by simp; omega) ?_)
        intro v' w1 hown hgrow _
        have HR := hideIt (rel_step hR hown hgrow)
        clear hown hgrow hO hR hcut
        go_wp2
        go_roundw
        case rel => exact ⟨k + 1, k + 1, _, by omega, by go_num, by go_num, HC.out, HR.out⟩
        case measure => simp [intOf]; omega
      | false =>
        have HC := hideIt (cut_go hcut hlt hb)
        clear hcut
        go_wp2
        go_roundw
        case rel => exact ⟨k + 1, t, P, by omega, by go_num, rfl, HC.out, hR⟩
        case measure => simp [intOf]; omega
    · have HC := hideIt (cut_end hcut (by omega))
      have hO := hideIt (hR.own.alloc (.cells #[.string (s.extract t s.size)] 9))
      have hbs := hR.below.size
      have hts : (t : Int) ≤ (s.size : Int) := by omega
      go_wp2_with (at_builtin; refine wpList_append_own _ rfl (.tmp 25) (.tmp 29) 28 rfl w.heap.size 9 i0 (.string ByteArray.empty) 1 16 Trym.underlying28 hi hz0 hz1 hz2 rfl (by decide) _ _ _ rfl hO.out ⟨wr.heap.size, 0, none⟩ 1 1 [.string (s.extract t s.size)] rfl rfl (cell_one_new _ _ _) (by intro u hu; simp at hu; subst hu; rfl) (by unfold maxLen; omega) (by omega) (by simp; omega) ?_)
      intro v' w1 hown hgrow _
      have HR := hideIt (rel_step hR hown hgrow)
      clear hown hgrow hO hR hcut
      go_wp2
      go_ret
      exact ⟨v', _, rfl, HR.out.own, HC.out, HR.out.below⟩
end Go.Proofs.Qxb6001800aMods
