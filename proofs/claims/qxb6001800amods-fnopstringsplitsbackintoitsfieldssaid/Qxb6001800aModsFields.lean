/-
  The walk of FnOpStringSplitsBackIntoItsFields (3).
-/
import Derived.Test.Qxb6001800aModsWalkA
import Derived.Test.Qxb6001800aModsWalkB
namespace Go.Proofs.Qxb6001800aMods
open Go.RowKit

/-- The cells of owned strings. -/
theorem own_cells {w : World} {B : Nat} {v : Value} {P : List ByteArray} (h : w.ownsRow B 9 1 v P.length (P.map Value.string)) (hP : 0 < P.length) :
    ∃ g cap, v = .slice (some ⟨g, 0, none⟩) P.length cap ∧ ∀ i (_ : i < P.length), w.cell? ⟨g, i, none⟩ = some (.string P[i]) := by
  obtain ⟨_, h2⟩ := h
  rcases h2 with ⟨_, h0⟩ | ⟨g, cap, cur, hv, _, hh, _, _, _, ht⟩
  · omega
  · refine ⟨g, cap, hv, fun i hi => ?_⟩
    have e : cur.toList[i]? = some (.string P[i]) := by
      have : (cur.toList.take (P.length * 1))[i]? = (P.map Value.string)[i]? := by rw [ht]
      rw [List.getElem?_take, if_pos (by omega)] at this
      rw [this, List.getElem?_map, List.getElem?_eq_getElem hi]; rfl
    rw [Array.getElem?_toList] at e
    simp [World.cell?, hh, e]

theorem split_two (a b : ByteArray) (w : World) (h1 : a.size ≤ 65536) (h2 : b.size ≤ 65536) (ha : hasSp a = false) (hb : hasSp b = false) :
    Calls Trym.prog 9 #[.string (a ++ (⟨#[32]⟩ : ByteArray) ++ b)] w fun e w' => ∃ g cap, e = .returned (.slice (some ⟨g, 0, none⟩) 2 cap) ∧ w'.cell? ⟨g, 0, none⟩ = some (.string a) ∧ w'.cell? ⟨g, 1, none⟩ = some (.string b) ∧ Below w.heap.size w w' := by
  refine (split_any _ w (by have : (⟨#[32]⟩ : ByteArray).size = 1 := rfl
                            simp only [ByteArray.size_append, this]; omega)).mono ?_
  rintro e w' ⟨v, P, rfl, hown, hP, hB⟩
  obtain rfl := two_parts ha hb hP
  obtain ⟨g, cap, rfl, hc⟩ := own_cells hown (by simp)
  exact ⟨g, cap, rfl, by simpa using hc 0 (by simp), by simpa using hc 1 (by simp), hB⟩

theorem split_three (a b c : ByteArray) (w : World) (h1 : a.size ≤ 65536) (h2 : b.size ≤ 65536) (h3 : c.size ≤ 65536) (ha : hasSp a = false) (hb : hasSp b = false) (hc : hasSp c = false) :
    Calls Trym.prog 9 #[.string (a ++ (⟨#[32]⟩ : ByteArray) ++ b ++ (⟨#[32]⟩ : ByteArray) ++ c)] w fun e w' => ∃ g cap, e = .returned (.slice (some ⟨g, 0, none⟩) 3 cap) ∧ w'.cell? ⟨g, 0, none⟩ = some (.string a) ∧ w'.cell? ⟨g, 1, none⟩ = some (.string b) ∧ w'.cell? ⟨g, 2, none⟩ = some (.string c) ∧ Below w.heap.size w w' := by
  refine (split_any _ w (by have : (⟨#[32]⟩ : ByteArray).size = 1 := rfl
                            simp only [ByteArray.size_append, this]; omega)).mono ?_
  rintro e w' ⟨v, P, rfl, hown, hP, hB⟩
  obtain rfl := three_parts ha hb hc hP
  obtain ⟨g, cap, rfl, hcell⟩ := own_cells hown (by simp)
  exact ⟨g, cap, rfl, by simpa using hcell 0 (by simp), by simpa using hcell 1 (by simp), by simpa using hcell 2 (by simp), hB⟩

set_option maxHeartbeats 2000000 in
theorem fields_walk (a b c : ByteArray) (w : World) :
    Calls Trym.prog 3 #[.string a, .string b, .string c] w fun e w' => e = .returned (.bool true) ∧ Below w.heap.size w w' := by
  go_enter Trym.func3, Trym.ntmps3
  go_wp2_with fail
  refine (guard_any a b c w).mono ?_
  rintro e w1 ⟨⟨r, rfl⟩, rfl⟩
  cases r with
  | false =>
    go_wp2_with fail
    go_ret
    exact ⟨rfl, Below.refl _ _⟩
  | true =>
    by_cases ha : (65536 : Int) < (a.size : Int)
    · go_wp2_with fail
      go_ret
      exact ⟨rfl, Below.refl _ _⟩
    by_cases hb : (65536 : Int) < (b.size : Int)
    · go_wp2_with fail
      go_ret
      exact ⟨rfl, Below.refl _ _⟩
    by_cases hc : (65536 : Int) < (c.size : Int)
    · go_wp2_with fail
      go_ret
      exact ⟨rfl, Below.refl _ _⟩
    have ha' : a.size ≤ 65536 := by omega
    have hb' : b.size ≤ 65536 := by omega
    have hc' : c.size ≤ 65536 := by omega
    cases hset : (a.toList == [115, 101, 116]) with
    | true =>
      go_wp2_with fail
      cases h7 : hasSp a with
      | true =>
        refine (has_is a _ ha' true h7).mono ?_
        rintro e w2 ⟨rfl, rfl⟩
        go_wp2_with fail
        go_ret
        exact ⟨rfl, Below.refl _ _⟩
      | false =>
        refine (has_is a _ ha' false h7).mono ?_
        rintro e w2 ⟨rfl, rfl⟩
        go_wp2_with fail
        cases h8 : hasSp b with
        | true =>
          refine (has_is b _ hb' true h8).mono ?_
          rintro e w2 ⟨rfl, rfl⟩
          go_wp2_with fail
          go_ret
          exact ⟨rfl, Below.refl _ _⟩
        | false =>
          refine (has_is b _ hb' false h8).mono ?_
          rintro e w2 ⟨rfl, rfl⟩
          go_wp2_with fail
          cases h9 : hasSp c with
          | true =>
            refine (has_is c _ hc' true h9).mono ?_
            rintro e w2 ⟨rfl, rfl⟩
            go_wp2_with fail
            go_ret
            exact ⟨rfl, Below.refl _ _⟩
          | false =>
            refine (has_is c _ hc' false h9).mono ?_
            rintro e w2 ⟨rfl, rfl⟩
            go_wp2_with fail
            refine (string_set a b c _ ha' hb' hc' hset).mono ?_
            rintro e w3 ⟨rfl, hB3⟩
            go_wp2_with fail
            refine (split_three a b c _ ha' hb' hc' h7 h8 h9).mono ?_
            rintro e w4 ⟨g, cap, rfl, c0, c1, c2, hB4⟩
            have HB := hideIt (hB3.trans (hB4.mono hB3.size))
            clear hB3 hB4
            go_wp2_with fail
            go_ret
            exact ⟨by simp, HB.out⟩
    | false =>
      go_wp2_with fail
      cases h7 : hasSp a with
      | true =>
        refine (has_is a _ ha' true h7).mono ?_
        rintro e w2 ⟨rfl, rfl⟩
        go_wp2_with fail
        go_ret
        exact ⟨rfl, Below.refl _ _⟩
      | false =>
        refine (has_is a _ ha' false h7).mono ?_
        rintro e w2 ⟨rfl, rfl⟩
        go_wp2_with fail
        cases h8 : hasSp b with
        | true =>
          refine (has_is b _ hb' true h8).mono ?_
          rintro e w2 ⟨rfl, rfl⟩
          go_wp2_with fail
          go_ret
          exact ⟨rfl, Below.refl _ _⟩
        | false =>
          refine (has_is b _ hb' false h8).mono ?_
          rintro e w2 ⟨rfl, rfl⟩
          go_wp2_with fail
          refine (string_other a b c _ ha' hb' hset).mono ?_
          rintro e w3 ⟨rfl, hB3⟩
          go_wp2_with fail
          refine (split_two a b _ ha' hb' h7 h8).mono ?_
          rintro e w4 ⟨g, cap, rfl, c0, c1, hB4⟩
          have HB := hideIt (hB3.trans (hB4.mono hB3.size))
          clear hB3 hB4
          go_wp2_with fail
          go_ret
          exact ⟨by simp, HB.out⟩
end Go.Proofs.Qxb6001800aMods
