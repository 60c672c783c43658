/-
  Walk: zzCloneStrings (11).
-/
import Derived.Test.Qxb6001729aModsProg
import Derived.Test.Qxb6001729aModsStrs
import Derived.Outline
import Derived.WalkSpells
import Derived.Deep.OwnRows
import Derived.Lib.SliceRun
namespace Go.Proofs.Qxb6001729aMods
open Go.RowKit

theorem Trym.info9 : (Trym.prog.info? 9).map (fun i => (i.zero, i.size, i.bytes)) = some (some (.string ByteArray.empty), 1, 16) := by kernel_rfl

/-- What a clone leaves: a slice of as many strings, the same ones, in memory of its own; nothing that was there has turned. -/
def Cloned (w : World) (n : Nat) (f : Nat → ByteArray) (e : Ending) (w' : World) : Prop :=
  ∃ a' c', e = .returned (.slice a' n c') ∧ n ≤ c' ∧ StrAt w' a' n f ∧ Below w.heap.size w w'

theorem below_of_since {B : Nat} {w w' : World} (h : w.Since B w') : Below B w w' := ⟨h.os, h.tape, h.output, h.size, h.block⟩

/-- The first k strings are laid. -/
def part (f : Nat → ByteArray) (k : Nat) : Nat → Value := fun i => if i < k then .string (f i) else .string ByteArray.empty

/-- What holds at the head of the cloning loop's round k. -/
structure Mid (w : World) (n : Nat) (f : Nat → ByteArray) (k : Nat) (wr : World) : Prop where
  since : w.Since w.heap.size wr
  row : wr.rowIs w.heap.size 9 n (part f k)

theorem mid_start (w : World) (n : Nat) (f : Nat → ByteArray) : Mid w n f 0 (w.alloc (.cells (madeCells #[.string ByteArray.empty] n) 9)) :=
  ⟨(World.Since.refl _ _).alloc (Nat.le_refl _) _, (World.rowIs_made w _ n 9).congr (fun i _ => by simp [part])⟩

theorem mid_step {w wr : World} {n k : Nat} {f : Nat → ByteArray} (h : Mid w n f k wr) : Mid w n f (k + 1) (wr.setCell ⟨w.heap.size, k, none⟩ (.string (f k))) := by
  refine ⟨h.since.setCell (Nat.le_refl _) _, (h.row.set k _).congr (fun i _ => ?_)⟩
  simp only [part]
  by_cases e : i = k
  · subst e; simp
  · rw [if_neg e]
    by_cases hlt : i < k
    · rw [if_pos hlt, if_pos (by omega)]
    · rw [if_neg hlt, if_neg (by omega)]

theorem mid_done {w wr : World} {n : Nat} {f : Nat → ByteArray} (h : Mid w n f n wr) : Cloned w n f (.returned (.slice (some ⟨w.heap.size, 0, none⟩) n n)) wr :=
  ⟨_, _, rfl, Nat.le_refl _, .inr ⟨_, _, rfl, h.row.lt, fun i hi => by rw [Nat.zero_add, h.row.cell hi]; simp [part, hi]⟩, below_of_since h.since⟩

theorem clone_nil (w : World) (f : Nat → ByteArray) (c : Nat) : 
    Calls Trym.prog 11 #[.slice none 0 c] w fun e w' => Cloned w 0 f e w' := by
  have hq := fun w0 => Lib.run_eql_slice_nil (P := Trym.prog) w0 22 9 none 0 c 0 0 Trym.underlying22
  go_enter Trym.func11, Trym.ntmps11
  go_wp2
  go_ret
  exact ⟨none, 0, rfl, Nat.le_refl _, .inl rfl, Below.refl _ _⟩

set_option maxHeartbeats 1000000 in
theorem clone_some (x : Addr) (n c : Nat) (f : Nat → ByteArray) (w : World) (hs : StrAt w (some x) n f) (hn : n ≤ 1048576) :
    Calls Trym.prog 11 #[.slice (some x) n c] w fun e w' => Cloned w n f e w' := by
  have hq := fun w0 => Lib.run_eql_slice_nil (P := Trym.prog) w0 22 9 (some x) n c 0 0 Trym.underlying22
  have hmk := run_make_row' (P := Trym.prog) 22 9 (.string ByteArray.empty) 16 Trym.underlying22 Trym.info9 rfl .i64 .i64 n (by omega) (by omega)
  go_enter Trym.func11, Trym.ntmps11
  go_wp2
  go_loopw [4] (fun i wr => ∃ k : Nat, k ≤ n ∧ i = .int .i64 k ∧ Mid w n f k wr) (fun i _ => n - (intOf i).toNat)
  case atStart => exact ⟨0, Nat.zero_le _, rfl, mid_start _ _ _⟩
  case round =>
    obtain ⟨k, hk, rfl, hmid⟩ := hrel
    by_cases hlt : k < n
    · rcases hs with h0 | ⟨b, off, hx, hbl, hc⟩
      · omega
      obtain rfl : x = ⟨b, off, none⟩ := by simpa using hx
      clear hx
      have hck : wr.cell? ⟨b, off + k, none⟩ = some (.string (f k)) := by rw [hmid.since.cell hbl]; exact hc k hlt
      have hfr := hmid.row.frozen k
      have hce := hmid.row.cell hlt
      have hM := hideIt (mid_step hmid)
      go_wp2
      go_roundw
      case rel => exact ⟨k + 1, by omega, by go_num, hM.out⟩
      case measure => simp [intOf]; omega
    · obtain rfl : k = n := by omega
      go_wp2
      go_ret
      exact mid_done hmid

theorem clone_any (a : Option Addr) (n c : Nat) (f : Nat → ByteArray) (w : World) (hs : StrAt w a n f) (hn : n ≤ 1048576) :
    Calls Trym.prog 11 #[.slice a n c] w fun e w' => Cloned w n f e w' := by
  cases a with
  | some x => exact clone_some x n c f w hs hn
  | none =>
    rcases hs with rfl | ⟨b, off, h, _⟩
    · exact clone_nil w f c
    · cases h

theorem StrAt.below {w w' : World} {a : Option Addr} {n : Nat} {f : Nat → ByteArray} (h : StrAt w a n f) (hb : Below w.heap.size w w') : StrAt w' a n f := by
  rcases h with h | ⟨b, off, ha, hl, hc⟩
  · exact .inl h
  · exact .inr ⟨b, off, ha, Nat.lt_of_lt_of_le hl hb.size, fun i hi => by rw [hb.cell hl]; exact hc i hi⟩
end Go.Proofs.Qxb6001729aMods
