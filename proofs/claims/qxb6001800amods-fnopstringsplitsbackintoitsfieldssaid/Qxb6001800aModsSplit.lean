/-
  Plain facts: bytes cut at each space. No Go function is walked here.
-/
import Derived.WalkKit
import Derived.Lib.Strings
import Derived.Lib.IndexBytes
namespace Go.Proofs.Qxb6001800aMods
open Go.RowKit

theorem hideIt {p : Prop} (h : p) : Hid p := h
theorem ret_bool {a b : Bool} (h : a = b) : Ending.returned (.bool a) = .returned (.bool b) := by rw [h]

/-- Is there a space among the bytes? -/
def anySp (l : List UInt8) : Bool := l.any fun c => c == 32
/-- Is there a space in the string? -/
def hasSp (s : ByteArray) : Bool := anySp s.data.toList

theorem anySp_append (a b : List UInt8) : anySp (a ++ b) = (anySp a || anySp b) := by simp [anySp]

theorem take_snoc (s : ByteArray) (k : Nat) (h : k < s.size) : s.data.toList.take (k + 1) = s.data.toList.take k ++ [s[k]] := by
  rw [List.take_succ_eq_append_getElem (by simpa using h)]; rfl

theorem byte_eq (c : UInt8) : ((c.toNat : Int) == 32) = (c == 32) := by
  rw [Bool.eq_iff_iff]
  simp only [beq_iff_eq]
  constructor
  · intro h
    apply UInt8.toNat.inj
    show c.toNat = 32
    omega
  · rintro rfl; rfl

theorem any_go {s : ByteArray} {k : Nat} (h : k < s.size) (hb : ((s[k].toNat : Int) == 32) = false) (hk : Hid (anySp (s.data.toList.take k) = false)) : Hid (anySp (s.data.toList.take (k + 1)) = false) := by
  show anySp (s.data.toList.take (k + 1)) = false
  rw [byte_eq] at hb
  rw [take_snoc s k h, anySp_append, hk.out]
  simp [anySp, hb]

theorem any_hit {s : ByteArray} {k : Nat} (h : k < s.size) (hb : ((s[k].toNat : Int) == 32) = true) : true = hasSp s := by
  rw [byte_eq] at hb
  have e : s.data.toList = s.data.toList.take (k + 1) ++ s.data.toList.drop (k + 1) := (List.take_append_drop _ _).symm
  unfold hasSp
  rw [e, anySp_append, take_snoc s k h, anySp_append]
  simp [anySp, hb]

theorem any_none {s : ByteArray} {k : Nat} (h : ¬ k < s.size) (hk : Hid (anySp (s.data.toList.take k) = false)) : false = hasSp s := by
  have e := hk.out
  rw [List.take_of_length_le (by simp; omega)] at e
  exact e.symm

/-- The parts between the spaces, empty ones kept. -/
def spl : List UInt8 → List (List UInt8)
  | [] => [[]]
  | c :: l => if c = 32 then [] :: spl l else match spl l with
    | [] => [[c]]
    | p :: ps => (c :: p) :: ps

theorem spl_none {l : List UInt8} (h : anySp l = false) : spl l = [l] := by
  induction l with
  | nil => rfl
  | cons c l ih =>
    simp only [anySp, List.any_cons, Bool.or_eq_false_iff, beq_eq_false_iff_ne] at h
    rw [spl, if_neg h.1, ih h.2]

theorem spl_cut {a b : List UInt8} (h : anySp a = false) : spl (a ++ 32 :: b) = a :: spl b := by
  induction a with
  | nil => simp [spl]
  | cons c a ih =>
    simp only [anySp, List.any_cons, Bool.or_eq_false_iff, beq_eq_false_iff_ne] at h
    rw [List.cons_append, spl, if_neg h.1, ih h.2]

/-- What is left of the bytes from 'st' on, its first 'k - st' without a space. -/
theorem drop_cut {l : List UInt8} {st k : Nat} (hst : st ≤ k) (hk : k < l.length) (hc : l[k] = 32) : l.drop st = (l.drop st).take (k - st) ++ 32 :: l.drop (k + 1) := by
  have e : l.drop st = (l.drop st).take (k - st) ++ (l.drop st).drop (k - st) := (List.take_append_drop _ _).symm
  rw [List.drop_drop, show st + (k - st) = k by omega, List.drop_eq_getElem_cons hk, hc] at e
  exact e

/-- The strings' bytes are the parts. -/
def byts (P : List ByteArray) : List (List UInt8) := P.map fun s => s.data.toList

/-- What holds at the head of round k: the parts that are done, where the present one starts. -/
structure Cut (s : ByteArray) (k st : Nat) (P : List ByteArray) : Prop where
  le : st ≤ k
  few : P.length ≤ k
  free : anySp ((s.data.toList.drop st).take (k - st)) = false
  done : byts P ++ spl (s.data.toList.drop st) = spl s.data.toList

theorem cut_start (s : ByteArray) : Cut s 0 0 [] := ⟨Nat.le_refl _, Nat.le_refl _, rfl, by simp [byts]⟩

theorem cut_go {s : ByteArray} {k st : Nat} {P : List ByteArray} (h : Cut s k st P) (hk : k < s.size) (hb : ((s[k].toNat : Int) == 32) = false) : Cut s (k + 1) st P := by
  obtain ⟨h1, h2, h3, h4⟩ := h
  rw [byte_eq] at hb
  refine ⟨by omega, by omega, ?_, h4⟩
  have hl : (s.data.toList.drop st).length = s.size - st := by rw [List.length_drop]; simp
  rw [show k + 1 - st = (k - st) + 1 by omega, List.take_succ_eq_append_getElem (by omega), anySp_append, h3, List.getElem_drop]
  have e : s.data.toList[st + (k - st)]'(by simp; omega) = s[k] := by
    have : st + (k - st) = k := by omega
    simp only [this]; rfl
  rw [e]
  simp [anySp, hb]

theorem cut_hit {s : ByteArray} {k st : Nat} {P : List ByteArray} (h : Cut s k st P) (hk : k < s.size) (hb : ((s[k].toNat : Int) == 32) = true) : Cut s (k + 1) (k + 1) (P ++ [s.extract st k]) := by
  obtain ⟨h1, h2, h3, h4⟩ := h
  rw [byte_eq] at hb
  have hk' : k < s.data.toList.length := by simpa using hk
  have hc : s.data.toList[k] = 32 := by
    have : s[k] = 32 := by simpa using hb
    exact this
  refine ⟨Nat.le_refl _, by simp; omega, by simp [anySp], ?_⟩
  rw [← h4, drop_cut h1 hk' hc, spl_cut h3]
  simp [byts]

theorem cut_end {s : ByteArray} {k st : Nat} {P : List ByteArray} (h : Cut s k st P) (hk : k = s.size) : byts (P ++ [s.extract st s.size]) = spl s.data.toList := by
  obtain ⟨h1, h2, h3, h4⟩ := h
  subst hk
  rw [List.take_of_length_le (by rw [List.length_drop]; simp)] at h3
  rw [← h4, spl_none h3]
  simp [byts]
  exact List.take_of_length_le (by rw [List.length_drop]; simp)

theorem byts_inj {P Q : List ByteArray} (h : byts P = byts Q) : P = Q := by
  have hi : ∀ a b : ByteArray, a.data.toList = b.data.toList → a = b := fun a b e => by
    cases a; cases b; simp_all
  induction P generalizing Q with
  | nil => cases Q with
    | nil => rfl
    | cons q Q => simp [byts] at h
  | cons p P ih => cases Q with
    | nil => simp [byts] at h
    | cons q Q =>
      simp only [byts, List.map_cons, List.cons.injEq] at h
      rw [hi p q h.1, ih h.2]

theorem two_parts {a b : ByteArray} (ha : hasSp a = false) (hb : hasSp b = false) {P : List ByteArray} (h : byts P = spl (a ++ (⟨#[32]⟩ : ByteArray) ++ b).data.toList) : P = [a, b] := by
  apply byts_inj
  rw [h]
  have e : (a ++ (⟨#[32]⟩ : ByteArray) ++ b).data.toList = a.data.toList ++ 32 :: b.data.toList := by simp
  rw [e, spl_cut ha, spl_none hb]; rfl

theorem three_parts {a b c : ByteArray} (ha : hasSp a = false) (hb : hasSp b = false) (hc : hasSp c = false) {P : List ByteArray} (h : byts P = spl (a ++ (⟨#[32]⟩ : ByteArray) ++ b ++ (⟨#[32]⟩ : ByteArray) ++ c).data.toList) : P = [a, b, c] := by
  apply byts_inj
  rw [h]
  have e : (a ++ (⟨#[32]⟩ : ByteArray) ++ b ++ (⟨#[32]⟩ : ByteArray) ++ c).data.toList = a.data.toList ++ 32 :: (b.data.toList ++ 32 :: c.data.toList) := by simp
  rw [e, spl_cut ha, spl_cut hb, spl_none hc]; rfl

end Go.Proofs.Qxb6001800aMods
