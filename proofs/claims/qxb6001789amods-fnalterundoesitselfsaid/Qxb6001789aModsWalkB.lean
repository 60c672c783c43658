/-
  Walks: slices.Clone at []byte (24), alter (21), ZZalter (11).
-/
import Derived.Test.Qxb6001789aModsProg
import Derived.Test.Qxb6001789aModsByt
import Derived.Test.Qxb6001789aModsWalkA
import Derived.Outline
import Derived.WalkSpells
import Derived.Lib.SliceRun
namespace Go.Proofs.Qxb6001789aMods
open Go.RowKit Go.ChangeShapes Go.WideShapes

/-- The bytes as cells. -/
def news (f : Nat → Nat) (n : Nat) : List Value := (List.range n).map fun i => .int .u8 (f i : Nat)
theorem news_length (f : Nat → Nat) (n : Nat) : (news f n).length = n * 1 := by simp [news]
theorem news_get {f : Nat → Nat} {n j : Nat} {u : Value} (h : (news f n)[j]? = some u) : j < n ∧ u = .int .u8 (f j : Nat) := by
  obtain ⟨hj, he⟩ := List.getElem?_eq_some_iff.1 h
  simp [news] at hj he
  exact ⟨hj, he.symm⟩
theorem news_one {f : Nat → Nat} {n : Nat} {u : Value} (h : u ∈ news f n) : u.oneCell' = true := by
  simp only [news, List.mem_map] at h
  obtain ⟨i, _, rfl⟩ := h
  rfl

/-- An owned row of bytes, as 'Own'. -/
theorem own_of {w : World} {B n : Nat} {v : Value} {f : Nat → Nat} (h : w.ownsRow B 5 1 v n (news f n)) (hn : 0 < n) (hf : ∀ i, i < n → f i < 256) :
    ∃ g cap, v = .slice (some ⟨g, 0, none⟩) n cap ∧ B ≤ g ∧ Own w g n cap f := by
  obtain ⟨_, h2⟩ := h
  rcases h2 with ⟨_, h0⟩ | ⟨g, cap, cur, hv, hg, hh, hc, _, hs, ht⟩
  · omega
  · refine ⟨g, cap, hv, hg, fun i => cur.getD i (.int .u8 0), ⟨cur, hh, by omega, fun i hi => ?_⟩, hc, fun i hi => ⟨?_, hf i hi⟩⟩
    · show cur[i]? = some (cur.getD i (.int .u8 0))
      rw [Array.getD_eq_getD_getElem?, Array.getElem?_eq_getElem (by omega)]; rfl
    · have e : cur.toList[i]? = some (.int .u8 (f i : Nat)) := by
        have : (cur.toList.take (n * 1))[i]? = (news f n)[i]? := by rw [ht]
        rw [List.getElem?_take, if_pos (by omega)] at this
        rw [this]
        simp [news, hi]
      rw [Array.getElem?_toList] at e
      show cur.getD i (.int .u8 0) = _
      rw [Array.getD_eq_getD_getElem?, e]; rfl

/-- What is handed back: n bytes f in a row of the call's own; nothing that was there has turned. -/
def Made (w : World) (n : Nat) (f : Nat → Nat) (e : Ending) (w' : World) : Prop :=
  ∃ g cap, e = .returned (.slice (some ⟨g, 0, none⟩) n cap) ∧ w.heap.size ≤ g ∧ Own w' g n cap f ∧ Below w.heap.size w w'

set_option maxHeartbeats 1000000 in
theorem sclone_any (b off n c : Nat) (f : Nat → Nat) (w : World) (hbl : b < w.heap.size) (hc : ∀ i, i < n → w.cell? ⟨b, off + i, none⟩ = some (.int .u8 (f i : Nat))) (hf : ∀ i, i < n → f i < 256) (hn0 : 0 < n) (hn : n ≤ 1048576) :
    Calls Trym.prog 24 #[.slice (some ⟨b, off, none⟩) n c] w fun e w' => Made w n f e w' := by
  have hq := fun w0 => Lib.run_eql_slice_nil (P := Trym.prog) w0 22 5 (some ⟨b, off, none⟩) n c 0 0 Trym.underlying22
  obtain ⟨i0, hi, hz0, hz1, hz2⟩ := info_parts Trym.info5
  have hnews : ∀ j u, (news f n)[j]? = some u → (w.alloc (.cells #[] 5)).cell? ((⟨b, off, none⟩ : Addr).add j) = some u := fun j u hu => by
    obtain ⟨hj, rfl⟩ := news_get hu
    rw [add_plain, ((Below.refl _ _).alloc (Nat.le_refl _) _ : Below w.heap.size w (w.alloc (.cells #[] 5))).cell hbl]
    exact hc j hj
  have HN := hideIt hnews
  have HF := hideIt hf
  clear hc hf hnews
  go_enter Trym.func24, Trym.ntmps24
  go_wp2_with (at_builtin; refine wpList_append_grows _ rfl (.tmp 5) (.tmp 6) 22 rfl 5 i0 (.int .u8 0) 1 1 Trym.underlying22 hi hz0 hz1 hz2 rfl (by decide) (some ⟨w.heap.size, 0, none⟩) 0 0 [] rfl (by intro h; cases h) rfl (by intro b hb j u hu; simp at hu) ⟨b, off, none⟩ n c (news f n) rfl (news_length f n) HN.out (fun u hu => news_one hu) (by omega) (by unfold maxLen; omega) (by omega) ?_)
  intro v' w' hown hgrow
  obtain ⟨g, cap, rfl, hg, hO⟩ := own_of hown hn0 HF.out
  have hB : Below w.heap.size w w' := ((Below.refl _ _).alloc (Nat.le_refl _) _).grown hgrow (by simp) (by intro k hk; cases hk)
  have HB := hideIt hB
  have hg' : w.heap.size ≤ g := by omega
  clear hown hgrow hB hg
  go_wp2
  go_ret
  exact ⟨g, cap, rfl, hg', hO, HB.out⟩

theorem one_own (w : World) : Own (w.alloc (.cells #[.int .u8 1] 5)) w.heap.size 1 1 (fun _ => 1) :=
  ⟨fun _ => .int .u8 1, World.rowIs_alloc w #[.int .u8 1] 5 _ (fun i hi => by
    obtain rfl : i = 0 := by simpa using hi
    rfl), Nat.le_refl _, fun i _ => ⟨rfl, show 1 < 256 by decide⟩⟩

theorem alter_zero (a : Option Addr) (c : Nat) (w : World) :
    Calls Trym.prog 21 #[.slice a 0 c] w fun e w' => Made w 1 (fun _ => 1) e w' := by
  go_enter Trym.func21, Trym.ntmps21
  go_wp2
  go_ret
  exact ⟨_, _, rfl, Nat.le_refl _, one_own w, (Below.refl _ _).alloc (Nat.le_refl _) _⟩

theorem alt_set {w : World} {g n cap : Nat} {f : Nat → Nat} (h : Own w g n cap f) (hn : 0 < n) : Own (w.setCell ⟨g, n - 1, none⟩ (.int .u8 ((f (n - 1) ^^^ 1 : Nat) : Int))) g n cap (alt n f) :=
  (h.set (n - 1) _ (xor1_lt (h.lt (by omega)))).congr (fun i hi => by
    unfold alt
    by_cases e : i = n - 1
    · rw [if_pos e, if_pos (by omega), e]
    · rw [if_neg e, if_neg (by omega)])

set_option maxHeartbeats 1000000 in
theorem alter_pos (a : Option Addr) (n c : Nat) (f : Nat → Nat) (w : World) (hs : Byt w a n f) (hn0 : 0 < n) (hn : n ≤ 1048576) :
    Calls Trym.prog 21 #[.slice a n c] w fun e w' => Made w n (alt n f) e w' := by
  rcases hs with h0 | ⟨b, off, rfl, hbl, hc⟩
  · omega
  have hnz : ((n : Int) == 0) = false := by simp; omega
  have C := sclone_any b off n c f w hbl (fun i hi => (hc i hi).1) (fun i hi => (hc i hi).2) hn0 hn
  have HC := hideIt C
  clear C hc
  go_enter Trym.func21, Trym.ntmps21
  go_wp2_with fail
  refine HC.out.mono ?_
  rintro e w1 ⟨g, cap, rfl, hg, hO, hB⟩
  have hce := hO.cell (show n - 1 < n by omega)
  have hfr := hO.frozen (n - 1)
  have hxo := xor_one (f (n - 1)) (hO.lt (by omega))
  have hlt : (n : Int) - 1 < (n : Int) := by omega
  have hge : 0 ≤ (n : Int) - 1 := by omega
  have HS := hideIt (alt_set hO hn0)
  have HB := hideIt (hB.setCell (p := ⟨g, n - 1, none⟩) hg (.int .u8 ((f (n - 1) ^^^ 1 : Nat) : Int)))
  clear hO hB HC
  go_wp2_with fail
  go_ret
  exact ⟨g, cap, rfl, hg, HS.out, HB.out⟩

theorem zzalter_zero (a : Option Addr) (c : Nat) (w : World) :
    Calls Trym.prog 11 #[.slice a 0 c] w fun e w' => Made w 1 (fun _ => 1) e w' := by
  have HC := hideIt (alter_zero a c w)
  go_enter Trym.func11, Trym.ntmps11
  go_wp2_with fail
  refine HC.out.mono ?_
  rintro e w1 ⟨g, cap, rfl, hg, hO, hB⟩
  go_wp2_with fail
  go_ret
  exact ⟨g, cap, rfl, hg, hO, hB⟩

theorem zzalter_pos (a : Option Addr) (n c : Nat) (f : Nat → Nat) (w : World) (hs : Byt w a n f) (hn0 : 0 < n) (hn : n ≤ 1048576) :
    Calls Trym.prog 11 #[.slice a n c] w fun e w' => Made w n (alt n f) e w' := by
  have HC := hideIt (alter_pos a n c f w hs hn0 hn)
  go_enter Trym.func11, Trym.ntmps11
  go_wp2_with fail
  refine HC.out.mono ?_
  rintro e w1 ⟨g, cap, rfl, hg, hO, hB⟩
  go_wp2_with fail
  go_ret
  exact ⟨g, cap, rfl, hg, hO, hB⟩
end Go.Proofs.Qxb6001789aMods
