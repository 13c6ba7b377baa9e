/- The message of a map's node tells what it was made of: the law walked. No condition. -/
import Derived.Test.YtegohkgmamnkdaaGreatRdQ
set_option linter.unusedVariables false
namespace Go.Proofs.YtegohkgmamnkdaaGreat.Msg
open Go.ChangeShapes Go.WideShapes Go.ChangeAt Go.RowKit
open Go.Proofs.YtegohkgmamnkdaaGreat.Dig Go.Proofs.YtegohkgmamnkdaaGreat.Mem Go.Proofs.YtegohkgmamnkdaaGreat.Rb
open Go.Proofs.YtegohkgmamnkdaaGreat.Cnt (encs enc Nums64)

theorem chunk_cat {w : World} {gs : List Fld} {m i : Nat} (ok : ∀ f ∈ gs, FldOk w f) (l : gs.length = m) (h20 : ∀ x ∈ gs, x.n = 20) (hi : i < m) : chunk (cat gs) i = (gs.getD i nof).xs := by
  have h1 := cat_at ok (show i < gs.length by omega)
  have h2 := total_20 (gs := gs.take i) (fun x hx => h20 x (List.mem_of_mem_take hx))
  rw [List.length_take, Nat.min_eq_left (by omega)] at h2
  rw [h2, h20 _ (getD_mem (by omega))] at h1
  unfold chunk
  rw [← h1, Nat.mul_comm]
theorem toldMap {w : World} {g o L cc m c c' k ck lv : Nat} {a b d : Option Addr} {fs gs : List Fld} {ls : List Nat} (h : NodeM w a b d m c c' k ck fs gs ls lv) (k0 : 0 < total fs) (v20 : 0 < lv → ∀ x ∈ gs, x.n = 20) (hR : RB w (some ⟨g, o, none⟩) L cc (msgMap fs gs ls m lv)) :
    Calls Tryz.prog 9 #[.slice (some ⟨g, o, none⟩) L cc, .slice a m c, .slice b m c', .slice d k ck, .int .i64 (lv : Int), .bool false] w fun e w' => e = .returned (.bool true) ∧ Below w.heap.size w w' := by
  have M := msgTold h
  rcases Nat.eq_zero_or_pos lv with h0 | h0
  · subst h0
    have M0 := M.1 rfl
    have hk := h.lv0 rfl
    subst hk
    exact vaToldP (rdrP0 M0 h.vals.ok h.keys.len h.vals.len h.hm h.hm0 k0 h.kb h.vb) (mess_of hR M0 (by omega)) h.keys h.vals h.hm h.hm0 h.kck h.ckt
  · have M0 := M.2 h0
    have hk := h.lv1 h0
    subst hk
    have g20 := v20 h0
    exact vaToldI (rdrP1 M0 h.keys.ok h.vals.ok g20 h.keys.len h.vals.len h.hm h.hm0 k0 h.kb h.vb h0 h.lv2 h.hk h.lb) (mess_of hR M0 (by omega)) h.keys h.vals h.hm h.hm0 h.kck h.ckt h0 h.lv2 rfl h.hk h.lb h.nums false (fun i hi => chunk_cat h.vals.ok h.vals.len g20 hi)
end Go.Proofs.YtegohkgmamnkdaaGreat.Msg
/- The message of a node of a map tells its level, its items and what lies below it, for any keys, values, counts and level: the law walked. No condition. -/
set_option linter.unusedVariables false
namespace Go.Proofs.YtegohkgmamnkdaaGreat.Msg
open Go.ChangeShapes Go.WideShapes Go.ChangeAt Go.RowKit
open Go.Proofs.YtegohkgmamnkdaaGreat.Dig Go.Proofs.YtegohkgmamnkdaaGreat.Mem Go.Proofs.YtegohkgmamnkdaaGreat.Rb
open Go.Proofs.YtegohkgmamnkdaaGreat.Cnt (encs enc Nums64)

theorem fits_ok {fs : List Fld} (h : fits fs = true) : ∀ f ∈ fs, f.n ≤ 2147483647 := fun f hf => by
  unfold fits at h
  rw [List.all_eq_true] at h
  exact of_decide_eq_true (h f hf)

set_option maxRecDepth 100000 in
set_option maxHeartbeats 4000000 in
theorem messageLaw (w : World) (a b d : Option Addr) (m c m2 c2 k ck : Nat) (fs gs : List Fld) (ls : List Nat) (L : Int) (h : Flds w a m c fs) (h' : Flds w b m2 c2 gs) (hk : ls.length = k) (hkc : k ≤ ck) (hct : ck ≤ maxLen) (hn : Nums64 w d ls) (hb : ∀ x ∈ ls, x < 18446744073709551616)
    (hL : -9223372036854775808 ≤ L) (hL2 : L ≤ 9223372036854775807) :
    Calls Tryz.prog 4 #[.slice a m c, .slice b m2 c2, .slice d k ck, .int .i64 L] w fun e w' => e = .returned (.bool true) ∧ Below w.heap.size w w' := by
  have hc1 := h.le
  have hc2 := h.top
  have hc3 := h'.le
  have hc4 := h'.top
  have KF := Lib.hid (zzFits w a m c fs h)
  have KG := Lib.hid (zzFits w b m2 c2 gs h')
  have hct' := hct
  unfold maxLen at hc2 hc4 hct'
  by_cases g1 : (decide (m ≤ 2147483647) && fits fs) = true
  · by_cases g2 : (decide (m2 ≤ 2147483647) && fits gs) = true
    · by_cases g3 : k ≤ 2147483647
      · have q3 : ¬ (2147483647 : Int) < (k : Int) := by omega
        rw [g1] at KF
        rw [g2] at KG
        simp only [Bool.and_eq_true, decide_eq_true_eq] at g1 g2
        have KN0 := vaNode w a b d m c m2 c2 k ck fs gs ls L false h h' (fits_ok g1.2) (fits_ok g2.2) g1.1 hk g3 hkc hct hn hb hL hL2
        by_cases ok : NodeOk m m2 k fs gs ls L false
        · have KN := Lib.hid (KN0.mono (R' := fun e w' => e = .returned (.bool true) ∧ Below w.heap.size w w') fun e w' ⟨r, he, hr, hbl⟩ => by
            rcases hr with ⟨hr, _⟩ | ⟨_, hr⟩
            · subst hr; exact ⟨he, hbl⟩
            · exact absurd ok hr)
          have e2 := ok.m2
          subst e2
          obtain ⟨lv, rfl⟩ : ∃ lv : Nat, L = (lv : Int) := ⟨L.toNat, by have := ok.l0; omega⟩
          have lt := ok.lt
          have mt := ok.mt
          have NM0 : NodeM w a b d m2 c c2 k ck fs gs ls lv := ⟨h, h', ok.mt, ok.m0, by have := ok.kt; omega, by have := ok.vt; omega, hk, hkc, hct, hn, fun x hx => by have := ok.ls x hx; omega, fun h0 => by have := ok.kk; omega, fun h0 => by have := ok.kk; omega, by omega⟩
          have NM := Lib.hid NM0
          have OK := Lib.hid ok
          clear KN0 NM0 h h' hk hn hb g1 g2 ok hct
          go_enter Tryz.func4, Tryz.ntmps4
          go_wp2_with (first
            | (go_at_call 5; (with_reducible refine KF.out.mono ?_); rintro e w1 ⟨rfl, rfl⟩)
            | (go_at_call 5; (with_reducible refine KG.out.mono ?_); rintro e w1 ⟨rfl, rfl⟩)
            | (go_at_call 6; (with_reducible refine KN.out.mono ?_); rintro e w1 ⟨rfl, hbel⟩; have BEL := Lib.hid hbel; clear hbel)
            | (go_at_call 10; (with_reducible refine (mapMessage w1 a b d m2 c c2 k ck fs gs ls lv (NM.out.below BEL.out)).mono ?_); rintro e w3 ⟨g3, o3, L3, d3, rfl, hr3, _, hb3⟩; have HR3 := Lib.hid hr3; have B3 := Lib.hid hb3; have x3 := hr3.le; have y3 := hr3.top; unfold maxLen at y3; clear hr3 hb3)
            | (go_at_call 10; (with_reducible refine (mapMessage w3 a b d m2 c c2 k ck fs gs ls lv (NM.out.below (bw BEL.out B3.out))).mono ?_); rintro e w4 ⟨g4, o4, L4, d4, rfl, hr4, _, hb4⟩; have HR4 := Lib.hid hr4; have B4 := Lib.hid hb4; have x4 := hr4.le; have y4 := hr4.top; unfold maxLen at y4; clear hr4 hb4; have KS := vaSame w4 (some ⟨g3, o3, none⟩) (some ⟨g4, o4, none⟩) L3 d3 L4 d4 _ _ (HR3.out.below B4.out (Nat.le_refl _)) HR4.out; simp only [beq_self_eq_true] at KS; have KS' := Lib.hid KS; clear KS)
            | (go_at_call 8; (with_reducible refine KS'.out.mono ?_); rintro e w5 ⟨rfl, rfl⟩)
            | (go_at_call 9; (with_reducible refine (toldMap (NM.out.below (bw (bw BEL.out B3.out) B4.out)) OK.out.k0 (fun h0 => OK.out.v20 (Or.inl (by omega))) (HR3.out.below B4.out (Nat.le_refl _))).mono ?_); rintro e w6 ⟨rfl, hb6⟩; have B6 := Lib.hid hb6; clear hb6))
          go_ret
          exact ⟨rfl, bw (bw (bw BEL.out B3.out) B4.out) B6.out⟩
        · have KN := Lib.hid (KN0.mono (R' := fun e w' => e = .returned (.bool false) ∧ Below w.heap.size w w') fun e w' ⟨r, he, hr, hbl⟩ => by
            rcases hr with ⟨_, hr⟩ | ⟨hr, _⟩
            · exact absurd hr ok
            · subst hr; exact ⟨he, hbl⟩)
          clear KN0 h h' hn hb g1 g2 hk ok
          go_enter Tryz.func4, Tryz.ntmps4
          go_wp2_with (first
            | (go_at_call 5; (with_reducible refine KF.out.mono ?_); rintro e w1 ⟨rfl, rfl⟩)
            | (go_at_call 5; (with_reducible refine KG.out.mono ?_); rintro e w1 ⟨rfl, rfl⟩)
            | (go_at_call 6; (with_reducible refine KN.out.mono ?_); rintro e w1 ⟨rfl, hbel⟩; have BEL := Lib.hid hbel; clear hbel))
          go_ret
          exact ⟨rfl, BEL.out⟩
      · have q3 : (2147483647 : Int) < (k : Int) := by omega
        rw [g1] at KF
        rw [g2] at KG
        clear h h' hn hb g3
        go_enter Tryz.func4, Tryz.ntmps4
        go_wp2_with (first
          | (go_at_call 5; (with_reducible refine KF.out.mono ?_); rintro e w1 ⟨rfl, rfl⟩)
          | (go_at_call 5; (with_reducible refine KG.out.mono ?_); rintro e w1 ⟨rfl, rfl⟩))
        go_ret
        exact ⟨rfl, Below.refl _ _⟩
    · have g2' : (decide (m2 ≤ 2147483647) && fits gs) = false := by simpa using g2
      rw [g1] at KF
      rw [g2'] at KG
      clear h h' hn hb g2
      go_enter Tryz.func4, Tryz.ntmps4
      go_wp2_with (first
        | (go_at_call 5; (with_reducible refine KF.out.mono ?_); rintro e w1 ⟨rfl, rfl⟩)
        | (go_at_call 5; (with_reducible refine KG.out.mono ?_); rintro e w1 ⟨rfl, rfl⟩))
      go_ret
      exact ⟨rfl, Below.refl _ _⟩
  · have g1' : (decide (m ≤ 2147483647) && fits fs) = false := by simpa using g1
    rw [g1'] at KF
    clear h h' hn hb g1
    go_enter Tryz.func4, Tryz.ntmps4
    go_wp2_with (go_at_call 5; (with_reducible refine KF.out.mono ?_); rintro e w1 ⟨rfl, rfl⟩)
    go_ret
    exact ⟨rfl, Below.refl _ _⟩
end Go.Proofs.YtegohkgmamnkdaaGreat.Msg
