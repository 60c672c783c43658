/-
  A '[]string' among the arguments, opened into what the walks ask ('StrAt').
-/
import Derived.Test.Qxb6001729aModsStrs
import Derived.ProofKit
import Derived.Deep.Strs
namespace Go.Proofs.Qxb6001729aMods
open Go.ChangeShapes Go.WideShapes Go.ChangeAt Go.RowKit Go.Deep

theorem strAt_of_trod {H : Type} {enc : TypeId × Value → H} {P : Program} {w : World} {base : Nat} {held : Bool} {t e : TypeId} {fuel : Nat} {a : Option Addr} {len cap : Nat} {x : DataW H × List MemPlace}
    (ht : P.underlying t = some (.slice e)) (he : P.underlying e = some .string) (hc : P.cellsOf e = 1)
    (h : DataW.trod enc P w base (fun _ => true) held fuel t [.slice a len cap] = some x) :
    ∃ f : Nat → ByteArray, StrAt w a len f ∧ len ≤ cap ∧ ∀ i, i < len → (f i).size ≤ maxLen := by
  rcases open_strs ht he hc h with ⟨hcs, _⟩ | ⟨x, l, c, m, Sx, hcs, _, hl, hm, hmm, _, hcell⟩
  · simp at hcs
    obtain ⟨rfl, rfl, rfl⟩ := hcs
    exact ⟨fun _ => ByteArray.empty, .inl rfl, Nat.le_refl _, fun i hi => absurd hi (Nat.not_lt_zero _)⟩
  · simp at hcs
    obtain ⟨rfl, rfl, rfl⟩ := hcs
    simp only [if_true] at hmm
    subst hmm
    refine ⟨Sx, ?_, hl, fun i hi => (hcell i (by omega)).2⟩
    by_cases h0 : len = 0
    · exact .inl h0
    · right
      obtain ⟨b, off, spot⟩ := x
      have hspot : spot = none := by simpa [Addr.add] using World.cell?_spot (hcell 0 (by omega)).1
      subst hspot
      have hcell' : ∀ j, j < len → w.cell? ⟨b, off + j, none⟩ = some (.string (Sx j)) := fun j hj => by rw [← add_plain]; exact (hcell j (by omega)).1
      exact ⟨b, off, rfl, World.block_lt_of_cell? w _ (hcell' 0 (by omega)), hcell'⟩

end Go.Proofs.Qxb6001729aMods
