/-
  What the walks say of a '[]byte' that lies in memory; plain facts on bytes. No Go function is walked here.
-/
import Derived.WalkKit
import Derived.Deep.OwnRows
import Derived.ProofKit
import Derived.Deep.QuietTactic
namespace Go.Proofs.Qxb6001789aMods
open Go.RowKit Go.ChangeShapes Go.WideShapes Go.ChangeAt

theorem hideIt {p : Prop} (h : p) : Hid p := h
theorem ret_bool {a b : Bool} (h : a = b) : Ending.returned (.bool a) = .returned (.bool b) := by rw [h]
theorem below_of_since {B : Nat} {w w' : World} (h : w.Since B w') : Below B w w' := ⟨h.os, h.tape, h.output, h.size, h.block⟩
theorem below_drewN (w : World) (q : Nat) : Below w.heap.size w (w.drewN q) := ⟨rfl, rfl, rfl, Nat.le_refl _, fun _ _ => rfl⟩

/-- A '[]byte' of n elements at address a: cell i behind it holds the byte 'f i'. -/
def Byt (w : World) (a : Option Addr) (n : Nat) (f : Nat → Nat) : Prop :=
  n = 0 ∨ ∃ b off, a = some ⟨b, off, none⟩ ∧ b < w.heap.size ∧ ∀ i, i < n → w.cell? ⟨b, off + i, none⟩ = some (.int .u8 (f i : Nat)) ∧ f i < 256

theorem Byt.below {w w' : World} {a : Option Addr} {n : Nat} {f : Nat → Nat} (h : Byt w a n f) (hb : Below w.heap.size w w') : Byt w' a n f := by
  rcases h with h | ⟨b, off, ha, hl, hc⟩
  · exact .inl h
  · exact .inr ⟨b, off, ha, Nat.lt_of_lt_of_le hl hb.size, fun i hi => ⟨by rw [hb.cell hl]; exact (hc i hi).1, (hc i hi).2⟩⟩

theorem Byt.lt {w : World} {a : Option Addr} {n : Nat} {f : Nat → Nat} (h : Byt w a n f) {i : Nat} (hi : i < n) : f i < 256 := by
  rcases h with h | ⟨b, off, ha, hl, hc⟩
  · omega
  · exact (hc i hi).2

/-- The lowest bit of the last byte flipped. -/
def alt (n : Nat) (f : Nat → Nat) : Nat → Nat := fun i => if i + 1 = n then f i ^^^ 1 else f i

theorem xor1_lt {a : Nat} (h : a < 256) : a ^^^ 1 < 256 := Nat.xor_lt_two_pow (n := 8) h (by decide)
theorem alt_lt {n i : Nat} {f : Nat → Nat} (h : f i < 256) : alt n f i < 256 := by
  unfold alt; split
  · exact xor1_lt h
  · exact h
theorem alt_alt (n i : Nat) (f : Nat → Nat) : alt n (alt n f) i = f i := by
  unfold alt
  by_cases h : i + 1 = n
  · simp only [h, if_true, Nat.xor_assoc, Nat.xor_self, Nat.xor_zero]
  · simp [h]

/-- Block g is a row of the call's own whose first n cells hold the bytes f. -/
def Own (w : World) (g n cap : Nat) (f : Nat → Nat) : Prop := ∃ F : Nat → Value, w.rowIs g 5 cap F ∧ n ≤ cap ∧ ∀ i, i < n → F i = .int .u8 (f i : Nat) ∧ f i < 256

theorem Own.byt {w : World} {g n cap : Nat} {f : Nat → Nat} (h : Own w g n cap f) : Byt w (some ⟨g, 0, none⟩) n f := by
  obtain ⟨F, hr, hn, hF⟩ := h
  refine .inr ⟨g, 0, rfl, hr.lt, fun i hi => ⟨?_, (hF i hi).2⟩⟩
  rw [Nat.zero_add, hr.cell (by omega), (hF i hi).1]

theorem Own.frozen {w : World} {g n cap : Nat} {f : Nat → Nat} (h : Own w g n cap f) (i : Nat) : w.frozen? ⟨g, i, none⟩ = false := by
  obtain ⟨F, hr, _⟩ := h
  exact hr.frozen i

theorem Own.cell {w : World} {g n cap : Nat} {f : Nat → Nat} (h : Own w g n cap f) {i : Nat} (hi : i < n) : w.cell? ⟨g, i, none⟩ = some (.int .u8 (f i : Nat)) := by
  obtain ⟨F, hr, hn, hF⟩ := h
  rw [hr.cell (by omega), (hF i hi).1]

theorem Own.lt {w : World} {g n cap : Nat} {f : Nat → Nat} (h : Own w g n cap f) {i : Nat} (hi : i < n) : f i < 256 := by
  obtain ⟨F, _, _, hF⟩ := h
  exact (hF i hi).2

theorem Own.cap {w : World} {g n cap : Nat} {f : Nat → Nat} (h : Own w g n cap f) : n ≤ cap := h.elim fun _ k => k.2.1

theorem Own.set {w : World} {g n cap : Nat} {f : Nat → Nat} (h : Own w g n cap f) (k v : Nat) (hv : v < 256) : Own (w.setCell ⟨g, k, none⟩ (.int .u8 (v : Nat))) g n cap (fun i => if i = k then v else f i) := by
  obtain ⟨F, hr, hn, hF⟩ := h
  refine ⟨_, hr.set k _, hn, fun i hi => ?_⟩
  by_cases e : i = k
  · simp [e, hv]
  · simpa [e] using hF i hi

theorem Own.congr {w : World} {g n cap : Nat} {f f' : Nat → Nat} (h : Own w g n cap f) (e : ∀ i, i < n → f i = f' i) : Own w g n cap f' := by
  obtain ⟨F, hr, hn, hF⟩ := h
  exact ⟨F, hr, hn, fun i hi => by rw [← e i hi]; exact hF i hi⟩

theorem xor_one (a : Nat) (h : a < 256) : bits .xor .u8 (a : Int) 1 = ((a ^^^ 1 : Nat) : Int) := u8_xor_nat a 1 h (by omega)
theorem xor_ff (a : Nat) (h : a < 256) : bits .xor .u8 (a : Int) 255 = ((a ^^^ 255 : Nat) : Int) := u8_xor_nat a 255 h (by omega)
theorem xorff_lt {a : Nat} (h : a < 256) : a ^^^ 255 < 256 := Nat.xor_lt_two_pow (n := 8) h (by decide)

/-- A '[]byte' among the arguments, opened. -/
theorem byt_of_trod {H : Type} {enc : TypeId × Value → H} {P : Program} {w : World} {base : Nat} {held : Bool} {t e : TypeId} {fuel : Nat} {a : Option Addr} {len cap : Nat} {x : DataW H × List MemPlace}
    (ht : P.underlying t = some (.slice e)) (he : P.underlying e = some (.int .u8)) (hc : P.cellsOf e = 1)
    (h : DataW.trod enc P w base (fun _ => true) held fuel t [.slice a len cap] = some x) :
    ∃ f : Nat → Nat, Byt w a len f := by
  rcases open_ints ht he hc h with ⟨hcs, _⟩ | ⟨x, l, c, zs, hcs, _, hl, hm, hz, _, hcell, hwz⟩
  · simp at hcs
    obtain ⟨rfl, rfl, rfl⟩ := hcs
    exact ⟨fun _ => 0, .inl rfl⟩
  · simp at hcs
    obtain ⟨rfl, rfl, rfl⟩ := hcs
    simp only [if_true] at hz
    refine ⟨fun i => (zs.getD i 0).toNat, ?_⟩
    by_cases h0 : len = 0
    · exact .inl h0
    · right
      obtain ⟨b, off, spot⟩ := x
      have hspot : spot = none := by simpa [Addr.add] using World.cell?_spot (hcell 0 (by omega))
      subst hspot
      have hcell' : ∀ j, j < len → w.cell? ⟨b, off + j, none⟩ = some (.int .u8 (zs.getD j 0)) := fun j hj => by rw [← add_plain]; exact hcell j (by omega)
      refine ⟨b, off, rfl, World.block_lt_of_cell? w _ (hcell' 0 (by omega)), fun j hj => ?_⟩
      have hmem : zs.getD j 0 ∈ zs := by
        rw [List.getD_eq_getElem?_getD, List.getElem?_eq_getElem (by omega)]
        exact List.getElem_mem _
      have hwf := hwz _ hmem
      have hb : 0 ≤ zs.getD j 0 ∧ zs.getD j 0 ≤ 255 := by simpa [Lit.wf, IntKind.min, IntKind.max, IntKind.signed, IntKind.bits] using hwf
      refine ⟨?_, by show (zs.getD j 0).toNat < 256; omega⟩
      rw [hcell' j hj]
      show some (Value.int .u8 (zs.getD j 0)) = some (.int .u8 (((zs.getD j 0).toNat : Nat) : Int))
      rw [Int.toNat_of_nonneg hb.1]

end Go.Proofs.Qxb6001789aMods
