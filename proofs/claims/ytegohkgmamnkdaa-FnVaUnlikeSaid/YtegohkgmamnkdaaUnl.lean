/- Two nodes that differ: their messages differ; the law walked. No condition. -/
import Derived.Test.YtegohkgmamnkdaaUnl2
import Derived.Test.YtegohkgmamnkdaaUnl3
import Derived.Test.YtegohkgmamnkdaaUnl4
import Derived.Test.YtegohkgmamnkdaaUnl5
set_option linter.unusedVariables false
namespace Go.Proofs.Ytegohkgmamnkdaa.Msg
open Go.ChangeShapes Go.WideShapes Go.ChangeAt Go.RowKit
open Go.Proofs.Ytegohkgmamnkdaa.Dig Go.Proofs.Ytegohkgmamnkdaa.Mem Go.Proofs.Ytegohkgmamnkdaa.Rb
open Go.Proofs.Ytegohkgmamnkdaa.Cnt (encs enc Nums64)

set_option maxRecDepth 100000 in
set_option maxHeartbeats 4000000 in
theorem unlike (w : World) (a b d : Option Addr) (m c m2 c2 k ck : Nat) (fs gs : List Fld) (ls : List Nat) (L At How : Int) (h : Flds w a m c fs) (h' : Flds w b m2 c2 gs) (hk : ls.length = k) (hkc : k ≤ ck) (hct : ck ≤ maxLen) (hn : Nums64 w d ls) (hd : d = none → ck = 0) (hb : ∀ x ∈ ls, x < 18446744073709551616)
    (hL : -9223372036854775808 ≤ L) (hL2 : L ≤ 9223372036854775807) :
    Calls Try.prog 3 #[.slice a m c, .slice b m2 c2, .slice d k ck, .int .i64 L, .int .i64 At, .int .i64 How] w fun e w' => e = .returned (.bool true) ∧ Below w.heap.size w w' := by
  have hc1 := h.le
  have hc2 := h.top
  have hc3 := h'.le
  have hc4 := h'.top
  have KF := Lib.hid (zzFits w a m c fs h)
  have KG := Lib.hid (zzFits w b m2 c2 gs h')
  have hct' := hct
  unfold maxLen at hc2 hc4 hct'
  by_cases g1 : (decide (m ≤ 2147483647) && fits fs) = true
  · by_cases g2 : (decide (m2 ≤ 2147483647) && fits gs) = true
    · by_cases g3 : k ≤ 2147483647
      · by_cases ok : NodeOk m m2 k fs gs ls L false
        · have e2 := ok.m2
          subst e2
          obtain ⟨lv, rfl⟩ : ∃ lv : Nat, L = (lv : Int) := ⟨L.toNat, by have := ok.l0; omega⟩
          obtain ⟨H, hH⟩ := wrap_nat How
          have e4 : (IntKind.u64.wrap How).tmod 4 = ((H % 4 : Nat) : Int) := by rw [hH]; exact tmod_nat H 4
          have h4 : H % 4 = 0 ∨ H % 4 = 1 ∨ H % 4 = 2 ∨ H % 4 = 3 := by omega
          rcases h4 with h4 | h4 | h4 | h4
          · exact unlike0 w a b d m2 c c2 k ck lv fs gs ls At How h h' hk hkc hct hn hd hb g1 g2 g3 ok (by rw [e4, h4]; rfl)
          · exact unlike1 w a b d m2 c c2 k ck lv fs gs ls At How h h' hk hkc hct hn hd hb g1 g2 g3 ok (by rw [e4, h4]; rfl)
          · exact unlike2 w a b d m2 c c2 k ck lv fs gs ls At How h h' hk hkc hct hn hd hb g1 g2 g3 ok (by rw [e4, h4]; rfl)
          · exact unlike3 w a b d m2 c c2 k ck lv fs gs ls At How h h' hk hkc hct hn hd hb g1 g2 g3 ok (by rw [e4, h4]; rfl)
        · have q3 : ¬ (2147483647 : Int) < (k : Int) := by omega
          rw [g1] at KF
          rw [g2] at KG
          simp only [Bool.and_eq_true, decide_eq_true_eq] at g1 g2
          have KN0 := vaNode w a b d m c m2 c2 k ck fs gs ls L false h h' (fits_ok g1.2) (fits_ok g2.2) g1.1 hk g3 hkc hct hn hb hL hL2
          have KN := Lib.hid (KN0.mono (R' := fun e w' => e = .returned (.bool false) ∧ Below w.heap.size w w') fun e w' ⟨r, he, hr, hbl⟩ => by
            rcases hr with ⟨_, hr⟩ | ⟨hr, _⟩
            · exact absurd hr ok
            · subst hr; exact ⟨he, hbl⟩)
          clear KN0 h h' hn hb g1 g2 hk ok
          go_enter Try.func3, Try.ntmps3
          go_wp2_with (first
            | (go_at_call 4; (with_reducible refine KF.out.mono ?_); rintro e w1 ⟨rfl, rfl⟩)
            | (go_at_call 4; (with_reducible refine KG.out.mono ?_); rintro e w1 ⟨rfl, rfl⟩)
            | (go_at_call 5; (with_reducible refine KN.out.mono ?_); rintro e w1 ⟨rfl, hbel⟩; have BEL := Lib.hid hbel; clear hbel))
          go_ret
          exact ⟨rfl, BEL.out⟩
      · have q3 : (2147483647 : Int) < (k : Int) := by omega
        rw [g1] at KF
        rw [g2] at KG
        clear h h' hn hb g3
        go_enter Try.func3, Try.ntmps3
        go_wp2_with (first
          | (go_at_call 4; (with_reducible refine KF.out.mono ?_); rintro e w1 ⟨rfl, rfl⟩)
          | (go_at_call 4; (with_reducible refine KG.out.mono ?_); rintro e w1 ⟨rfl, rfl⟩))
        go_ret
        exact ⟨rfl, Below.refl _ _⟩
    · have g2' : (decide (m2 ≤ 2147483647) && fits gs) = false := by simpa using g2
      rw [g1] at KF
      rw [g2'] at KG
      clear h h' hn hb g2
      go_enter Try.func3, Try.ntmps3
      go_wp2_with (first
        | (go_at_call 4; (with_reducible refine KF.out.mono ?_); rintro e w1 ⟨rfl, rfl⟩)
        | (go_at_call 4; (with_reducible refine KG.out.mono ?_); rintro e w1 ⟨rfl, rfl⟩))
      go_ret
      exact ⟨rfl, Below.refl _ _⟩
  · have g1' : (decide (m ≤ 2147483647) && fits fs) = false := by simpa using g1
    rw [g1'] at KF
    clear h h' hn hb g1
    go_enter Try.func3, Try.ntmps3
    go_wp2_with (go_at_call 4; (with_reducible refine KF.out.mono ?_); rintro e w1 ⟨rfl, rfl⟩)
    go_ret
    exact ⟨rfl, Below.refl _ _⟩
end Go.Proofs.Ytegohkgmamnkdaa.Msg
