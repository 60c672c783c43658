/-
  Plain facts for FnHoldsInOrderKeepsUnderWiderKeysAndFewerNames: a list with one string put in, a list with one left out; and a row of strings that the call itself fills.
-/
import Derived.Test.Qxb6001729aModsStrs
import Derived.Test.Qxb6001729aModsWalkD
namespace Go.Proofs.Qxb6001729aMods
open Go.RowKit

/-- x put in at position i. -/
def wide (f : Nat → ByteArray) (i : Nat) (x : ByteArray) : Nat → ByteArray := fun t => if t < i then f t else if t = i then x else f (t - 1)
/-- Element j left out. -/
def few (g : Nat → ByteArray) (j : Nat) : Nat → ByteArray := fun t => if t < j then g t else g (t + 1)

theorem lst_get (f : Nat → ByteArray) (n t : Nat) : (lst f n)[t]? = if t < n then some (f t).toList else none := by
  unfold lst
  by_cases h : t < n
  · simp [h]
  · simp [h]

theorem wide_erase (f : Nat → ByteArray) {n i : Nat} (x : ByteArray) (hi : i ≤ n) : (lst (wide f i x) (n + 1)).eraseIdx i = lst f n := by
  apply List.ext_getElem?
  intro t
  rw [List.getElem?_eraseIdx]
  simp only [lst_get]
  by_cases h : t < i
  · rw [if_pos h, if_pos (by omega), if_pos (by omega)]
    simp [wide, h]
  · rw [if_neg h]
    by_cases ht : t < n
    · rw [if_pos (by omega), if_pos ht]
      simp [wide, show ¬ t + 1 < i by omega, show ¬ t + 1 = i by omega]
    · rw [if_neg (by omega), if_neg ht]

theorem few_erase (g : Nat → ByteArray) {m j : Nat} (hj : j < m) : (lst g m).eraseIdx j = lst (few g j) (m - 1) := by
  apply List.ext_getElem?
  intro t
  rw [List.getElem?_eraseIdx]
  simp only [lst_get]
  by_cases h : t < j
  · rw [if_pos h, if_pos (by omega), if_pos (by omega)]
    simp [few, h]
  · rw [if_neg h]
    by_cases ht : t < m - 1
    · rw [if_pos (by omega), if_pos ht]
      simp [few, h]
    · rw [if_neg (by omega), if_neg ht]

theorem subB_self (f : Nat → ByteArray) (n : Nat) : subB f n f n = true := (subB_iff _ _ _ _).2 (List.Sublist.refl _)
theorem subB_none (f g : Nat → ByteArray) (n : Nat) : subB f n g 0 = true := (subB_iff _ _ _ _).2 (by simp [lst])
theorem subB_wide {f g : Nat → ByteArray} {n m i : Nat} (x : ByteArray) (hi : i ≤ n) (h : subB f n g m = true) : subB (wide f i x) (n + 1) g m = true := by
  rw [subB_iff] at h ⊢
  refine h.trans ?_
  rw [← wide_erase f x hi]
  exact List.eraseIdx_sublist _ _
theorem subB_few {f g : Nat → ByteArray} {n m j : Nat} (hj : j < m) (h : subB f n g m = true) : subB f n (few g j) (m - 1) = true := by
  rw [subB_iff] at h ⊢
  refine List.Sublist.trans ?_ h
  rw [← few_erase g hj]
  exact List.eraseIdx_sublist _ _

/-! ### A row that the call fills -/

/-- Nothing that was there in w has turned; the block behind it is a row of N strings F. -/
structure Fill (w : World) (N : Nat) (F : Nat → ByteArray) (wr : World) : Prop where
  since : w.Since w.heap.size wr
  row : wr.rowIs w.heap.size 9 N (fun t => .string (F t))

theorem fill_start (w : World) (N : Nat) : Fill w N (fun _ => ByteArray.empty) (w.alloc (.cells (madeCells #[.string ByteArray.empty] N) 9)) :=
  ⟨(World.Since.refl _ _).alloc (Nat.le_refl _) _, World.rowIs_made w _ N 9⟩

theorem Fill.congr {w wr : World} {N : Nat} {F G : Nat → ByteArray} (h : Fill w N F wr) (e : ∀ t, t < N → F t = G t) : Fill w N G wr :=
  ⟨h.since, h.row.congr (fun t ht => by rw [e t ht])⟩

theorem Fill.set {w wr : World} {N : Nat} {F : Nat → ByteArray} (h : Fill w N F wr) (k : Nat) (s : ByteArray) : Fill w N (fun t => if t = k then s else F t) (wr.setCell ⟨w.heap.size, k, none⟩ (.string s)) :=
  ⟨h.since.setCell (Nat.le_refl _) _, (h.row.set k _).congr (fun t _ => by by_cases e : t = k <;> simp [e])⟩

theorem Fill.below {w wr : World} {N : Nat} {F : Nat → ByteArray} (h : Fill w N F wr) : Below w.heap.size w wr := below_of_since h.since

theorem Fill.strAt {w wr : World} {N : Nat} {F : Nat → ByteArray} (h : Fill w N F wr) : StrAt wr (some ⟨w.heap.size, 0, none⟩) N F :=
  .inr ⟨_, _, rfl, h.row.lt, fun i hi => by rw [Nat.zero_add, h.row.cell hi]⟩

/-- The first k cells hold F's strings, the others none. -/
def upTo (F : Nat → ByteArray) (k : Nat) : Nat → ByteArray := fun t => if t < k then F t else ByteArray.empty

theorem fill_zero (w : World) (N : Nat) (F : Nat → ByteArray) : Fill w N (upTo F 0) (w.alloc (.cells (madeCells #[.string ByteArray.empty] N) 9)) :=
  (fill_start w N).congr (fun t _ => by simp [upTo])

theorem fill_step {w wr : World} {N k : Nat} {F : Nat → ByteArray} (s : ByteArray) (h : Fill w N (upTo F k) wr) (hs : s = F k) : Fill w N (upTo F (k + 1)) (wr.setCell ⟨w.heap.size, k, none⟩ (.string s)) := by
  subst hs
  refine (h.set k _).congr (fun t _ => ?_)
  simp only [upTo]
  by_cases e : t = k
  · subst e; simp
  · rw [if_neg e]
    by_cases hlt : t < k
    · rw [if_pos hlt, if_pos (by omega)]
    · rw [if_neg hlt, if_neg (by omega)]

theorem fill_done {w wr : World} {N : Nat} {F : Nat → ByteArray} (h : Fill w N (upTo F N) wr) : Fill w N F wr :=
  h.congr (fun t ht => by simp [upTo, ht])

theorem wide_lo (f : Nat → ByteArray) {i t : Nat} (x : ByteArray) (h : t < i) : f t = wide f i x t := by simp [wide, h]
theorem wide_at (f : Nat → ByteArray) (i : Nat) (x : ByteArray) : x = wide f i x i := by simp [wide]
theorem wide_hi (f : Nat → ByteArray) {i t : Nat} (x : ByteArray) (h : i ≤ t) : f t = wide f i x (t + 1) := by simp [wide, show ¬ t + 1 < i by omega, show ¬ t + 1 = i by omega]
theorem few_lo (g : Nat → ByteArray) {j t : Nat} (h : t < j) : g t = few g j t := by simp [few, h]
theorem few_hi (g : Nat → ByteArray) {j t : Nat} (h : j < t) : g t = few g j (t - 1) := by
  simp only [few]
  rw [if_neg (by omega), show t - 1 + 1 = t by omega]

end Go.Proofs.Qxb6001729aMods
