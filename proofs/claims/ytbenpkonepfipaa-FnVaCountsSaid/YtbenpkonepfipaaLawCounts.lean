/- The law of the numbers of subtrees, walked. No condition. -/
import Derived.Test.YtbenpkonepfipaaCnt7
set_option linter.unusedVariables false
namespace Go.Proofs.Ytbenpkonepfipaa.Cnt
open Go.ChangeShapes Go.WideShapes Go.ChangeAt Go.RowKit
open Go.Proofs.Ytbenpkonepfipaa.Dig Go.Proofs.Ytbenpkonepfipaa.Mem Go.Proofs.Ytbenpkonepfipaa.Rb Go.Proofs.Ytbenpkonepfipaa.Var

theorem same (w : World) (a b : Option Addr) (n c m d : Nat) (xs : List Nat) (hx : RB w a n c xs) (hy : RB w b m d xs) :
    Calls Try.prog 19 #[.slice a n c, .slice b m d] w fun e w' => e = .returned (.bool true) ∧ w = w' := by
  have := Sl.vaSame w a b n c m d xs xs hx hy
  simpa using this

set_option maxRecDepth 100000 in
set_option maxHeartbeats 1000000 in
theorem main (w : World) (a : Option Addr) (n c : Nat) (ls : List Nat) (hl : ls.length = n) (hn : n ≤ 300) (hnc : n ≤ c) (hb : ∀ x ∈ ls, x < 18446744073709551616) (hc : Nums64 w a ls) :
    Calls Try.prog 6 #[.slice a n c] w fun e w' => e = .returned (.bool true) ∧ Below w.heap.size w w' := by
  have K22 := Lib.hid (counts w a n c ls hl hn hb hc)
  have K23 := Lib.hid fun w' a' m' c' hm hr => countsRead w' n a' m' c' ls hl hn hm hb hr
  have K24 := Lib.hid fun w' (h : Below w.heap.size w w') => countsOf w' a n c ls hl hn hb (hc.below h)
  have HL := Lib.hid hl
  have HC := Lib.hid hc
  have q1 : ¬ (2147483647 : Int) < (n : Int) := by omega
  have q2 : ¬ (300 : Int) < (n : Int) := by omega
  clear hl hb hc
  go_enter Try.func6, Try.ntmps6
  go_wp2_with (first
    | (go_at_call 22; (with_reducible refine K22.out.mono ?_); rintro e w1 ⟨g, m, N, rfl, hm, hN, hr1, hb1⟩; have R1 := Lib.hid hr1; have B1 := Lib.hid hb1; clear hr1 hb1)
    | (go_at_call 23; (with_reducible refine (K23.out w1 _ _ _ (by omega) R1.out).mono ?_); rintro e w2 ⟨g2, rfl, hO⟩; have HO := Lib.hid hO; have B2 := Lib.hid (B1.out.trans (hO.bel.mono B1.out.size)); clear hO)
    | (go_at_call 24; (with_reducible refine (K24.out w2 B2.out).mono ?_); rintro e w3 ⟨a3, n3, c3, rfl, hr3, hb3⟩; have R3 := Lib.hid hr3; have B23 := Lib.hid hb3; have B3 := Lib.hid (B2.out.trans (hb3.mono B2.out.size)); have R1' := Lib.hid (R1.out.below (HO.out.bel.trans (hb3.mono HO.out.bel.size)) (Nat.le_refl _)); clear hr3 hb3)
    | (go_at_call 19; (with_reducible refine (same w3 _ _ _ _ _ _ _ R1'.out R3.out).mono ?_); rintro e w4 ⟨rfl, rfl⟩))
  go_loopw [48] (fun iv wr => ∃ k : Nat, k ≤ n ∧ iv = .int .i64 (k : Int) ∧ Below w3.heap.size w3 wr) (fun iv _ => n - (intOf iv).toNat)
  case atStart => exact ⟨0, by omega, rfl, Below.refl _ _⟩
  case round =>
    obtain ⟨k, hk, rfl, hbel⟩ := hrel
    by_cases hlt : k < n
    · obtain ⟨b, o, ea, hb2, hcell⟩ := HC.out (by rw [HL.out]; omega)
      subst ea
      have hB4 := B3.out.trans (hbel.mono B3.out.size)
      obtain ⟨x, hx⟩ : ∃ x, x = ls.getD k 0 := ⟨_, rfl⟩
      have gx : wr.cell? ⟨b, o + k, none⟩ = some (.int .u64 (x : Int)) := by rw [hx]; exact (hB4.cell (p := ⟨b, o + k, none⟩) hb2).trans (hcell k (by rw [HL.out]; exact hlt))
      have hg2 : g2 < w2.heap.size := by
        have hh := HO.out.row
        rcases Nat.lt_or_ge g2 w2.heap.size with h | h
        · exact h
        · rw [Array.getElem?_eq_none h] at hh; cases hh
      have gy : wr.cell? ⟨g2, k, none⟩ = some (.int .u64 (x : Int)) := by
        rw [hx, ← HO.out.cell (by rw [HL.out]; exact hlt)]
        exact (hbel.cell (p := ⟨g2, k, none⟩) (Nat.lt_of_lt_of_le hg2 B23.out.size)).trans (B23.out.cell (p := ⟨g2, k, none⟩) hg2)
      have hki : (k : Int) < (n : Int) := by omega
      have HB4 := Lib.hid hB4
      have HBEL := Lib.hid hbel
      clear hx hcell hB4 hbel
      go_wp2_with fail
      go_quiet (fail)
      go_wp2_with fail
      go_roundw
      case rel => exact ⟨k + 1, by omega, by go_num, bdn HBEL.out _⟩
      case measure => simp [intOf]; omega
    · obtain rfl : k = n := by omega
      have HBEL := Lib.hid hbel
      clear hbel
      go_wp2_with fail
      go_ret
      exact ⟨rfl, B3.out.trans (HBEL.out.mono B3.out.size)⟩

theorem walk (w : World) (a : Option Addr) (n c : Nat) (ls : List Nat) (hl : ls.length = n) (hnc : n ≤ c) (hct : c ≤ maxLen) (hb : ∀ x ∈ ls, x < 18446744073709551616) (hc : Nums64 w a ls) :
    Calls Try.prog 6 #[.slice a n c] w fun e w' => e = .returned (.bool true) ∧ Below w.heap.size w w' := by
  unfold maxLen at hct
  have HL := Lib.hid hl
  have HB := Lib.hid hb
  have HC := Lib.hid hc
  clear hl hb hc
  by_cases g1 : 2147483647 < n
  · have q1 : (2147483647 : Int) < (n : Int) := by omega
    go_enter Try.func6, Try.ntmps6
    go_wp2_with fail
    go_ret
    exact ⟨rfl, by go_grown⟩
  have q1 : ¬ (2147483647 : Int) < (n : Int) := by omega
  by_cases g2 : 300 < n
  · have q2 : (300 : Int) < (n : Int) := by omega
    go_enter Try.func6, Try.ntmps6
    go_wp2_with fail
    go_ret
    exact ⟨rfl, by go_grown⟩
  exact main w a n c ls HL.out (by omega) hnc HB.out HC.out
end Go.Proofs.Ytbenpkonepfipaa.Cnt
