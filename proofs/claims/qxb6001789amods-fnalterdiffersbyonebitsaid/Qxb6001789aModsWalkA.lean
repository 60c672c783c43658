/-
  Walks: the guards on total length (9, 13, 15), cloneBytes (10), sameBytes (12).
-/
import Derived.Test.Qxb6001789aModsProg
import Derived.Test.Qxb6001789aModsByt
import Derived.Outline
import Derived.WalkSpells
import Derived.Lib.SliceRun
import Derived.BigQuiet
namespace Go.Proofs.Qxb6001789aMods
open Go.RowKit

theorem Trym.info5 : (Trym.prog.info? 5).map (fun i => (i.zero, i.size, i.bytes)) = some (some (.int .u8 0), 1, 1) := by kernel_rfl

theorem guard9_no (a : Option Addr) (n c : Nat) (w : World) (h : (1048576 : Int) < (n : Int)) :
    Calls Trym.prog 9 #[.slice a n c] w fun e w' => e = .returned (.bool false) ∧ w' = w := by
  go_enter Trym.func9, Trym.ntmps9
  go_wp2
  go_ret
  exact ⟨rfl, rfl⟩
theorem guard9_yes (a : Option Addr) (n c : Nat) (w : World) (h : ¬ (1048576 : Int) < (n : Int)) :
    Calls Trym.prog 9 #[.slice a n c] w fun e w' => e = .returned (.bool true) ∧ w' = w := by
  go_enter Trym.func9, Trym.ntmps9
  go_wp2
  go_ret
  exact ⟨rfl, rfl⟩
theorem guard13_no (a : Option Addr) (n c : Nat) (w : World) (h : (1048576 : Int) < (n : Int)) :
    Calls Trym.prog 13 #[.slice a n c] w fun e w' => e = .returned (.bool false) ∧ w' = w := by
  go_enter Trym.func13, Trym.ntmps13
  go_wp2
  go_ret
  exact ⟨rfl, rfl⟩
theorem guard13_yes (a : Option Addr) (n c : Nat) (w : World) (h : ¬ (1048576 : Int) < (n : Int)) :
    Calls Trym.prog 13 #[.slice a n c] w fun e w' => e = .returned (.bool true) ∧ w' = w := by
  go_enter Trym.func13, Trym.ntmps13
  go_wp2
  go_ret
  exact ⟨rfl, rfl⟩
theorem guard15_no (a : Option Addr) (n c : Nat) (w : World) (h : (1048576 : Int) < (n : Int)) :
    Calls Trym.prog 15 #[.slice a n c] w fun e w' => e = .returned (.bool false) ∧ w' = w := by
  go_enter Trym.func15, Trym.ntmps15
  go_wp2
  go_ret
  exact ⟨rfl, rfl⟩
theorem guard15_yes (a : Option Addr) (n c : Nat) (w : World) (h : ¬ (1048576 : Int) < (n : Int)) :
    Calls Trym.prog 15 #[.slice a n c] w fun e w' => e = .returned (.bool true) ∧ w' = w := by
  go_enter Trym.func15, Trym.ntmps15
  go_wp2
  go_ret
  exact ⟨rfl, rfl⟩

/-- What a clone leaves: a slice of as many bytes, the same ones; nothing that was there has turned. -/
def Cloned (w : World) (n : Nat) (f : Nat → Nat) (e : Ending) (w' : World) : Prop :=
  ∃ a' c', e = .returned (.slice a' n c') ∧ Byt w' a' n f ∧ Below w.heap.size w w'

/-- The first k bytes are laid. -/
def part (f : Nat → Nat) (k : Nat) : Nat → Value := fun i => if i < k then .int .u8 (f i : Nat) else .int .u8 0

structure Mid (w : World) (n : Nat) (f : Nat → Nat) (k : Nat) (wr : World) : Prop where
  since : w.Since w.heap.size wr
  row : wr.rowIs w.heap.size 5 n (part f k)

theorem mid_start (w : World) (n : Nat) (f : Nat → Nat) : Mid w n f 0 (w.alloc (.cells (madeCells #[.int .u8 0] n) 5)) :=
  ⟨(World.Since.refl _ _).alloc (Nat.le_refl _) _, (World.rowIs_made w _ n 5).congr (fun i _ => by simp [part])⟩

theorem mid_step {w wr : World} {n k : Nat} {f : Nat → Nat} (h : Mid w n f k wr) : Mid w n f (k + 1) (wr.setCell ⟨w.heap.size, k, none⟩ (.int .u8 (f k : Nat))) := by
  refine ⟨h.since.setCell (Nat.le_refl _) _, (h.row.set k _).congr (fun i _ => ?_)⟩
  simp only [part]
  by_cases e : i = k
  · subst e; simp
  · rw [if_neg e]
    by_cases hlt : i < k
    · rw [if_pos hlt, if_pos (by omega)]
    · rw [if_neg hlt, if_neg (by omega)]

theorem mid_done {w wr : World} {n : Nat} {f : Nat → Nat} (h : Mid w n f n wr) (hf : ∀ i, i < n → f i < 256) : Cloned w n f (.returned (.slice (some ⟨w.heap.size, 0, none⟩) n n)) wr :=
  ⟨_, _, rfl, .inr ⟨_, _, rfl, h.row.lt, fun i hi => ⟨by rw [Nat.zero_add, h.row.cell hi]; simp [part, hi], hf i hi⟩⟩, below_of_since h.since⟩

theorem clone_nil (w : World) (f : Nat → Nat) (c : Nat) : 
    Calls Trym.prog 10 #[.slice none 0 c] w fun e w' => Cloned w 0 f e w' := by
  have hq := fun w0 => Lib.run_eql_slice_nil (P := Trym.prog) w0 22 5 none 0 c 0 0 Trym.underlying22
  go_enter Trym.func10, Trym.ntmps10
  go_wp2
  go_ret
  exact ⟨none, 0, rfl, .inl rfl, Below.refl _ _⟩

set_option maxHeartbeats 1000000 in
theorem clone_some (x : Addr) (n c : Nat) (f : Nat → Nat) (w : World) (hs : Byt w (some x) n f) (hn : n ≤ 1048576) :
    Calls Trym.prog 10 #[.slice (some x) n c] w fun e w' => Cloned w n f e w' := by
  have hq := fun w0 => Lib.run_eql_slice_nil (P := Trym.prog) w0 22 5 (some x) n c 0 0 Trym.underlying22
  have hmk := run_make_row' (P := Trym.prog) 22 5 (.int .u8 0) 1 Trym.underlying22 Trym.info5 rfl .i64 .i64 n (by omega) (by omega)
  go_enter Trym.func10, Trym.ntmps10
  go_wp2
  go_loopw [4] (fun i wr => ∃ k : Nat, k ≤ n ∧ i = .int .i64 k ∧ Mid w n f k wr) (fun i _ => n - (intOf i).toNat)
  case atStart => exact ⟨0, Nat.zero_le _, rfl, mid_start _ _ _⟩
  case round =>
    obtain ⟨k, hk, rfl, hmid⟩ := hrel
    by_cases hlt : k < n
    · rcases hs with h0 | ⟨b, off, hx, hbl, hc⟩
      · omega
      obtain rfl : x = ⟨b, off, none⟩ := by simpa using hx
      clear hx
      have hck : wr.cell? ⟨b, off + k, none⟩ = some (.int .u8 (f k : Nat)) := by rw [hmid.since.cell hbl]; exact (hc k hlt).1
      have hfr := hmid.row.frozen k
      have hce := hmid.row.cell hlt
      have hM := hideIt (mid_step hmid)
      clear hc hmid
      go_wp2
      go_roundw
      case rel => exact ⟨k + 1, by omega, by go_num, hM.out⟩
      case measure => simp [intOf]; omega
    · obtain rfl : k = n := by omega
      have hf := fun i hi => hs.lt (i := i) hi
      have HD := hideIt (mid_done hmid hf)
      clear hf
      go_wp2
      go_ret
      exact HD.out

theorem clone_any (a : Option Addr) (n c : Nat) (f : Nat → Nat) (w : World) (hs : Byt w a n f) (hn : n ≤ 1048576) :
    Calls Trym.prog 10 #[.slice a n c] w fun e w' => Cloned w n f e w' := by
  cases a with
  | some x => exact clone_some x n c f w hs hn
  | none =>
    rcases hs with rfl | ⟨b, off, h, _⟩
    · exact clone_nil w f c
    · cases h

set_option maxHeartbeats 1000000 in
theorem same_yes (a1 a2 : Option Addr) (n c1 c2 : Nat) (f g : Nat → Nat) (w : World) (hs1 : Byt w a1 n f) (hs2 : Byt w a2 n g) (hn : n ≤ 1048576) (he : ∀ i, i < n → f i = g i) :
    Calls Trym.prog 12 #[.slice a1 n c1, .slice a2 n c2] w fun e w' => e = .returned (.bool true) ∧ Below w.heap.size w w' := by
  have HE := hideIt he
  clear he
  go_enter Trym.func12, Trym.ntmps12
  go_wp2
  go_loopw [5] (fun i wr => ∃ (k q : Nat), k ≤ n ∧ i = .int .i64 k ∧ wr = w.drewN q) (fun i _ => n - (intOf i).toNat)
  case atStart => exact ⟨0, 0, Nat.zero_le _, rfl, rfl⟩
  case round =>
    obtain ⟨k, q, hk, rfl, rfl⟩ := hrel
    by_cases hlt : k < n
    · rcases hs1 with h0 | ⟨b1, o1, rfl, _, hc1⟩
      · omega
      rcases hs2 with h0 | ⟨b2, o2, rfl, _, hc2⟩
      · omega
      have h1 := (hc1 k hlt).1
      have h2 := (hc2 k hlt).1
      rw [← HE.out k hlt] at h2
      have hlt' : (k : Int) < (n : Int) := by omega
      clear hc1 hc2
      go_wp2
      go_quiet (fail)
      go_wp2
      go_roundw
      case rel => exact ⟨k + 1, _, by omega, by go_num, rfl⟩
      case measure => simp [intOf]; omega
    · go_wp2
      go_ret
      exact ⟨rfl, below_drewN _ _⟩
end Go.Proofs.Qxb6001789aMods
