/-
  The walk of FnHoldsInOrderKeepsUnderWiderKeysAndFewerNames (5), out of its callees' contracts.
-/
import Derived.Test.Qxb6001729aModsWalkA
import Derived.Test.Qxb6001729aModsWalkC
import Derived.Test.Qxb6001729aModsWalkD
import Derived.Test.Qxb6001729aModsWalkE
import Derived.Test.Qxb6001729aModsKeepsLaw
namespace Go.Proofs.Qxb6001729aMods
open Go.RowKit

/-- ZZholdsInOrder, its answer named. -/
theorem zzholds_is (a1 a2 : Option Addr) (n c1 m c2 : Nat) (f g : Nat → ByteArray) (w : World) (hs1 : StrAt w a1 n f) (hs2 : StrAt w a2 m g) (hn : n ≤ c1) (hm : m ≤ 1048576) (hnb : n ≤ 1048576) (r : Bool) (hr : subB f n g m = r) :
    Calls Trym.prog 12 #[.slice a1 n c1, .slice a2 m c2] w fun e w' => e = .returned (.bool r) ∧ w' = w := by
  subst hr
  exact zzholds_any a1 a2 n c1 m c2 f g w hs1 hs2 hn hm hnb

set_option maxHeartbeats 4000000 in
set_option maxRecDepth 100000 in
theorem keeps_walk (a1 a2 : Option Addr) (n c1 m c2 : Nat) (f g : Nat → ByteArray) (x : ByteArray) (i j : Int) (w : World) (hs1 : StrAt w a1 n f) (hs2 : StrAt w a2 m g) :
    Calls Trym.prog 5 #[.slice a1 n c1, .slice a2 m c2, .string x, .int .i64 i, .int .i64 j] w fun e w' => e = .returned (.bool true) ∧ Below w.heap.size w w' := by
  go_enter Trym.func5, Trym.ntmps5
  go_wp2_with fail
  refine (bytes15_any a1 a2 n c1 m c2 f g x i j w hs1 hs2).mono ?_
  rintro e w' ⟨⟨r, rfl, hr⟩, rfl⟩
  cases r with
  | false =>
    clear hr
    go_wp2_with fail
    go_ret
    exact ⟨rfl, Below.refl _ _⟩
  | true =>
    have hbd := hr rfl
    clear hr
    by_cases hn : (65536 : Int) < (n : Int)
    · go_wp2_with fail
      go_ret
      exact ⟨rfl, Below.refl _ _⟩
    by_cases hm : (65536 : Int) < (m : Int)
    · go_wp2_with fail
      go_ret
      exact ⟨rfl, Below.refl _ _⟩
    have hnd : decide ((65536 : Int) < (n : Int)) = false := decide_eq_false hn
    have hmd : decide ((65536 : Int) < (m : Int)) = false := decide_eq_false hm
    go_wp2_with fail
    refine (weigh_any a1 n c1 f _ hs1 (by omega)).mono ?_
    rintro e w' ⟨rfl, rfl⟩
    go_wp2_with fail
    refine (weigh_any a2 m c2 g _ hs2 (by omega)).mono ?_
    rintro e w' ⟨rfl, rfl⟩
    have h1 := wt_sz f n
    have h2 := wt_sz g m
    have h3 : wt f n ≤ 17825792 := by omega
    have h4 : wt g m ≤ 17825792 := by omega
    have h5 : x.size ≤ 1048576 := by omega
    clear h1 h2
    by_cases hw : (1048576 : Int) < ((wt f n : Nat) : Int) + ((wt g m : Nat) : Int) + (x.size : Int)
    · go_wp2_with fail
      go_ret
      exact ⟨rfl, Below.refl _ _⟩
    by_cases hi0 : i < 0
    · go_wp2_with fail
      go_ret
      exact ⟨rfl, Below.refl _ _⟩
    by_cases hin : (n : Int) < i
    · go_wp2_with fail
      go_ret
      exact ⟨rfl, Below.refl _ _⟩
    have hwd : decide ((1048576 : Int) < ((wt f n : Nat) : Int) + ((wt g m : Nat) : Int) + (x.size : Int)) = false := decide_eq_false hw
    obtain ⟨i, rfl⟩ := Int.eq_ofNat_of_zero_le (show 0 ≤ i by omega)
    have hin' : i ≤ n := by omega
    have hid : decide ((i : Int) < 0) = false := decide_eq_false hi0
    go_wp2_with fail
    refine (clone_any a1 n c1 f _ hs1 (by omega)).mono ?_
    rintro e w1 ⟨b1, d1, rfl, hd1, hk1, hb1⟩
    go_wp2_with fail
    refine (clone_any a2 m c2 g _ (hs2.below hb1) (by omega)).mono ?_
    rintro e w2 ⟨b2, d2, rfl, hd2, hk2, hb2⟩
    have hk1' := hk1.below hb2
    have HB := hb1.trans (hb2.mono hb1.size)
    have hsz := Nat.le_trans hb1.size hb2.size
    clear hs1 hs2 hk1 hb1 hb2 h3 h4 h5 hw hbd hwd hid hnd hmd hi0 hin
    go_wp2_with fail
    refine (zzholds_is b1 b1 n d1 n d1 f f _ hk1' hk1' hd1 (by omega) (by omega) true (subB_self f n)).mono ?_
    rintro e w3 ⟨rfl, rfl⟩
    go_wp2_with fail
    refine (zzholds_is b1 none n d1 0 0 f f _ hk1' (.inl rfl) hd1 (by omega) (by omega) true (subB_none f f n)).mono ?_
    rintro e w3 ⟨rfl, rfl⟩
    go_wp2_with fail
    cases hsub : subB f n g m with
    | false =>
      refine (zzholds_is b1 b2 n d1 m d2 f g _ hk1' hk2 hd1 (by omega) (by omega) false hsub).mono ?_
      rintro e w3 ⟨rfl, rfl⟩
      clear hsub
      go_wp2_with fail
      go_ret
      exact ⟨rfl, HB⟩
    | true =>
      refine (zzholds_is b1 b2 n d1 m d2 f g _ hk1' hk2 hd1 (by omega) (by omega) true hsub).mono ?_
      rintro e w3 ⟨rfl, rfl⟩
      have HS := hideIt hsub
      clear hsub
      have hmk := run_make_row' (P := Trym.prog) 22 9 (.string ByteArray.empty) 16 Trym.underlying22 Trym.info9 rfl .i64 .i64 (n + 1) (by omega) (by omega)
      rw [show ((n + 1 : Nat) : Int) = (n : Int) + 1 by omega] at hmk
      go_wp2_with fail
      go_loopw [12] (fun t wr => ∃ k : Nat, k ≤ i ∧ t = .int .i64 k ∧ Fill w3 (n + 1) (upTo (wide f i x) k) wr) (fun t _ => i - (intOf t).toNat)
      case atStart => exact ⟨0, Nat.zero_le _, rfl, fill_zero _ _ _⟩
      case round =>
        obtain ⟨k, hk, rfl, hfill⟩ := hrel
        by_cases hlt : k < i
        · rcases hk1' with h0 | ⟨b, off, rfl, hbl, hc⟩
          · omega
          have hck : wr.cell? ⟨b, off + k, none⟩ = some (.string (f k)) := by rw [hfill.since.cell hbl]; exact hc k (by omega)
          have hfr := hfill.row.frozen k
          have hce := hfill.row.cell (show k < n + 1 by omega)
          have hM := hideIt (fill_step (f k) hfill (wide_lo f x hlt))
          clear hc hfill
          go_wp2
          go_roundw
          case rel => exact ⟨k + 1, by omega, by go_num, hM.out⟩
          case measure => simp [intOf]; omega
        · obtain rfl : k = i := by omega
          have hfr := hfill.row.frozen k
          have hce := hfill.row.cell (show k < n + 1 by omega)
          have hM := hideIt (fill_step x hfill (wide_at f k x))
          clear hfill
          go_wp2
          clear hce hfr
          go_loopw [13] (fun t wr => ∃ q : Nat, k ≤ q ∧ q ≤ n ∧ t = .int .i64 q ∧ Fill w3 (n + 1) (upTo (wide f k x) (q + 1)) wr) (fun t _ => n - (intOf t).toNat)
          case atStart => exact ⟨k, Nat.le_refl _, hin', rfl, hM.out⟩
          case round =>
            clear hM
            obtain ⟨q, hq0, hq, rfl, hfill⟩ := hrel
            by_cases hlt : q < n
            · rcases hk1' with h0 | ⟨b, off, rfl, hbl, hc⟩
              · omega
              have hck : wr.cell? ⟨b, off + q, none⟩ = some (.string (f q)) := by rw [hfill.since.cell hbl]; exact hc q (by omega)
              have hfr := hfill.row.frozen (q + 1)
              have hce := hfill.row.cell (show q + 1 < n + 1 by omega)
              have hM := hideIt (fill_step (f q) hfill (wide_hi f x hq0))
              clear hc hfill
              go_wp2
              go_roundw
              case rel => exact ⟨q + 1, by omega, by omega, by go_num, hM.out⟩
              case measure => simp [intOf]; omega
            · obtain rfl : q = n := by omega
              have hF := fill_done hfill
              have hs1 := hk1'.below hF.below
              have hs2 := hk2.below hF.below
              have HB2 := HB.trans (hF.below.mono hsz)
              have hsz2 := Nat.le_trans hsz hF.below.size
              have hws := hF.strAt
              clear hfill hF hk1' hk2 HB hmk
              go_wp2_with fail
              refine (zzholds_is _ b2 (q + 1) (q + 1) m d2 (wide f k x) g _ hws hs2 (Nat.le_refl _) (by omega) (by omega) true (subB_wide x hin' HS.out)).mono ?_
              rintro e w5 ⟨rfl, rfl⟩
              by_cases hj0 : j < 0
              · go_wp2_with fail
                go_ret
                exact ⟨rfl, HB2⟩
              by_cases hjm : ¬ j < (m : Int)
              · go_wp2_with fail
                go_ret
                exact ⟨rfl, HB2⟩
              obtain ⟨j, rfl⟩ := Int.eq_ofNat_of_zero_le (show 0 ≤ j by omega)
              have hjm' : j < m := by omega
              clear hjm hj0
              have hmk := run_make_row' (P := Trym.prog) 22 9 (.string ByteArray.empty) 16 Trym.underlying22 Trym.info9 rfl .i64 .i64 (m - 1) (by omega) (by omega)
              rw [show ((m - 1 : Nat) : Int) = (m : Int) - 1 by omega] at hmk
              go_wp2_with fail
              clear hmk hws
              go_loopw [15] (fun t wr => ∃ k : Nat, k ≤ j ∧ t = .int .i64 k ∧ Fill w5 (m - 1) (upTo (few g j) k) wr) (fun t _ => j - (intOf t).toNat)
              case atStart => exact ⟨0, Nat.zero_le _, rfl, fill_zero _ _ _⟩
              case round =>
                obtain ⟨p, hp, rfl, hfill⟩ := hrel
                by_cases hlt : p < j
                · rcases hs2 with h0 | ⟨b, off, rfl, hbl, hc⟩
                  · omega
                  have hck : wr.cell? ⟨b, off + p, none⟩ = some (.string (g p)) := by rw [hfill.since.cell hbl]; exact hc p (by omega)
                  have hfr := hfill.row.frozen p
                  have hce := hfill.row.cell (show p < m - 1 by omega)
                  have hM := hideIt (fill_step (g p) hfill (few_lo g hlt))
                  have hpm : (p : Int) < ((m - 1 : Nat) : Int) := by omega
                  clear hc hfill
                  go_wp2
                  go_roundw
                  case rel => exact ⟨p + 1, by omega, by go_num, hM.out⟩
                  case measure => simp [intOf]; omega
                · obtain rfl : p = j := by omega
                  have hM := hideIt hfill
                  clear hfill
                  go_wp2
                  go_loopw [16] (fun t wr => ∃ q : Nat, p + 1 ≤ q ∧ q ≤ m ∧ t = .int .i64 q ∧ Fill w5 (m - 1) (upTo (few g p) (q - 1)) wr) (fun t _ => m - (intOf t).toNat)
                  case atStart => exact ⟨p + 1, Nat.le_refl _, by omega, by go_num, hM.out⟩
                  case round =>
                    clear hM
                    obtain ⟨u, hu0, hu, rfl, hfill⟩ := hrel
                    by_cases hlt : u < m
                    · rcases hs2 with h0 | ⟨b, off, rfl, hbl, hc⟩
                      · omega
                      have hck : wr.cell? ⟨b, off + u, none⟩ = some (.string (g u)) := by rw [hfill.since.cell hbl]; exact hc u (by omega)
                      have hfr := hfill.row.frozen (u - 1)
                      have hce := hfill.row.cell (show u - 1 < m - 1 by omega)
                      have hM := fill_step (g u) hfill (few_hi g (show p < u by omega))
                      rw [show u - 1 + 1 = u + 1 - 1 by omega] at hM
                      have HM := hideIt hM
                      have hpm : (u : Int) - 1 < ((m - 1 : Nat) : Int) := by omega
                      clear hc hfill hM
                      go_wp2
                      go_roundw
                      case rel => exact ⟨u + 1, by omega, by omega, by go_num, HM.out⟩
                      case measure => simp [intOf]; omega
                    · obtain rfl : u = m := by omega
                      have hF := fill_done hfill
                      have hs1' := hs1.below hF.below
                      have HB3 := HB2.trans (hF.below.mono hsz2)
                      have hws := hF.strAt
                      clear hfill hF
                      go_wp2_with fail
                      refine (zzholds_is b1 _ q d1 (u - 1) (u - 1) f (few g p) _ hs1' hws hd1 (by omega) (by omega) true (subB_few hjm' HS.out)).mono ?_
                      rintro e w5 ⟨rfl, rfl⟩
                      go_wp2_with fail
                      go_ret
                      exact ⟨rfl, HB3⟩
end Go.Proofs.Qxb6001729aMods
