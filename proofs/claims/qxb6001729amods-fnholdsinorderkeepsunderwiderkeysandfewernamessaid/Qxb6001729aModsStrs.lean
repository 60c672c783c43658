/-
  Plain facts on lists of byte strings, and what the walks say of a '[]string' that lies in memory. No Go function is walked here.
-/
import Derived.WalkKit
namespace Go.Proofs.Qxb6001729aMods
open Go.RowKit

theorem hideIt {p : Prop} (h : p) : Hid p := h

/-- A '[]string' of n elements at address a: cell i behind it holds the string 'f i'. -/
def StrAt (w : World) (a : Option Addr) (n : Nat) (f : Nat → ByteArray) : Prop :=
  n = 0 ∨ ∃ b off, a = some ⟨b, off, none⟩ ∧ b < w.heap.size ∧ ∀ i, i < n → w.cell? ⟨b, off + i, none⟩ = some (.string (f i))

/-- The strings' bytes summed, 16 a string besides. -/
def wt (f : Nat → ByteArray) : Nat → Nat
  | 0 => 0
  | n + 1 => wt f n + (16 + (f n).size)

/-- The strings' bytes summed. -/
def sz (f : Nat → ByteArray) : Nat → Nat
  | 0 => 0
  | n + 1 => sz f n + (f n).size

theorem wt_sz (f : Nat → ByteArray) (n : Nat) : wt f n = 16 * n + sz f n := by
  induction n with
  | zero => rfl
  | succ n ih => simp only [wt, sz, ih]; omega

theorem sz_mono (f : Nat → ByteArray) {i n : Nat} (h : i ≤ n) : sz f i ≤ sz f n := by
  induction n with
  | zero => obtain rfl : i = 0 := by omega
            exact Nat.le_refl _
  | succ n ih =>
    by_cases hi : i = n + 1
    · subst hi; exact Nat.le_refl _
    · have := ih (by omega); simp only [sz]; omega

theorem sz_at (f : Nat → ByteArray) {i n : Nat} (h : i < n) : sz f i + (f i).size ≤ sz f n := by
  have := sz_mono f (show i + 1 ≤ n from h)
  simpa [sz] using this

/-- The list of the strings, each as its bytes. -/
def lst (f : Nat → ByteArray) (n : Nat) : List (List UInt8) := (List.range n).map fun i => (f i).toList

theorem lst_length (f : Nat → ByteArray) (n : Nat) : (lst f n).length = n := by simp [lst]

theorem lst_drop (f : Nat → ByteArray) {k n : Nat} (h : k < n) : (lst f n).drop k = (f k).toList :: (lst f n).drop (k + 1) := by
  rw [List.drop_eq_getElem_cons (by simpa [lst] using h)]
  simp [lst]

theorem lst_drop_all (f : Nat → ByteArray) {k n : Nat} (h : n ≤ k) : (lst f n).drop k = [] := by
  rw [List.drop_eq_nil_iff]; simpa [lst] using h

theorem lst_take (f : Nat → ByteArray) {k n : Nat} (h : k < n) : (lst f n).take (k + 1) = (lst f n).take k ++ [(f k).toList] := by
  rw [List.take_succ_eq_append_getElem (by simpa [lst] using h)]
  simp [lst]

/-- Are the second list's strings, in their order, among the first's? -/
def subB (f : Nat → ByteArray) (n : Nat) (g : Nat → ByteArray) (m : Nat) : Bool := (lst g m).isSublist (lst f n)

theorem subB_iff (f : Nat → ByteArray) (n : Nat) (g : Nat → ByteArray) (m : Nat) : subB f n g m = true ↔ (lst g m).Sublist (lst f n) := by
  unfold subB; exact List.isSublist_iff_sublist

theorem subB_of {f : Nat → ByteArray} {n : Nat} {g : Nat → ByteArray} {m : Nat} (p : Prop) (h : p ↔ (lst g m).Sublist (lst f n)) (c : Bool) (hc : c = true ↔ p) : subB f n g m = c := by
  rw [Bool.eq_iff_iff, subB_iff, hc, h]

theorem ne_step {α : Type} [DecidableEq α] {x y : α} {xs ys : List α} (h : x ≠ y) : (y :: ys).Sublist (x :: xs) ↔ (y :: ys).Sublist xs := by
  constructor
  · intro k
    cases k with
    | cons _ k => exact k
    | cons_cons _ k => exact absurd rfl h
  · exact fun k => k.cons _

theorem ne_step_end {α : Type} [DecidableEq α] {x y : α} {xs ys : List α} (h : x ≠ y) : (ys ++ [y]).Sublist (xs ++ [x]) ↔ (ys ++ [y]).Sublist xs := by
  have := ne_step (xs := xs.reverse) (ys := ys.reverse) h
  rw [← List.reverse_sublist (l₁ := ys ++ [y]) (l₂ := xs ++ [x]), ← List.reverse_sublist (l₁ := ys ++ [y]) (l₂ := xs)]
  simpa using this

theorem eq_step_end {α : Type} {x : α} {xs ys : List α} : (ys ++ [x]).Sublist (xs ++ [x]) ↔ ys.Sublist xs := List.append_sublist_append_right [x]

end Go.Proofs.Qxb6001729aMods
