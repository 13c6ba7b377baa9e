/- Two nodes, of which the second is changed as 'how' tells (3): the law walked. No condition. -/
import Derived.Test.YtegohkgmamnkdaaUnl1
set_option linter.unusedVariables false
namespace Go.Proofs.Ytegohkgmamnkdaa.Msg
open Go.ChangeShapes Go.WideShapes Go.ChangeAt Go.RowKit
open Go.Proofs.Ytegohkgmamnkdaa.Dig Go.Proofs.Ytegohkgmamnkdaa.Mem Go.Proofs.Ytegohkgmamnkdaa.Rb
open Go.Proofs.Ytegohkgmamnkdaa.Cnt (encs enc Nums64)

set_option maxRecDepth 100000 in
set_option maxHeartbeats 4000000 in
theorem unlike3 (w : World) (a b d : Option Addr) (m c c2 k ck lv : Nat) (fs gs : List Fld) (ls : List Nat) (At How : Int) (h : Flds w a m c fs) (h' : Flds w b m c2 gs) (hk : ls.length = k) (hkc : k ≤ ck) (hct : ck ≤ maxLen) (hn : Nums64 w d ls) (hd : d = none → ck = 0) (hb : ∀ x ∈ ls, x < 18446744073709551616)
    (g1 : (decide (m ≤ 2147483647) && fits fs) = true) (g2 : (decide (m ≤ 2147483647) && fits gs) = true) (g3 : k ≤ 2147483647) (ok : NodeOk m m k fs gs ls (lv : Int) false) (hq : (IntKind.u64.wrap How).tmod 4 = 3) :
    Calls Try.prog 3 #[.slice a m c, .slice b m c2, .slice d k ck, .int .i64 (lv : Int), .int .i64 At, .int .i64 How] w fun e w' => e = .returned (.bool true) ∧ Below w.heap.size w w' := by
  have hc1 := h.le
  have hc2 := h.top
  have hc3 := h'.le
  have hc4 := h'.top
  have KF := Lib.hid (zzFits w a m c fs h)
  have KG := Lib.hid (zzFits w b m c2 gs h')
  have hct' := hct
  unfold maxLen at hc2 hc4 hct'
  rw [g1] at KF
  rw [g2] at KG
  have q3 : ¬ (2147483647 : Int) < (k : Int) := by omega
  have g1' := g1
  have g2' := g2
  simp only [Bool.and_eq_true, decide_eq_true_eq] at g1' g2'
  have KN0 := vaNode w a b d m c m c2 k ck fs gs ls (lv : Int) false h h' (fits_ok g1'.2) (fits_ok g2'.2) g1'.1 hk g3 hkc hct hn hb (by omega) (by have := ok.lt; omega)
  have KN := Lib.hid (KN0.mono (R' := fun e w' => e = .returned (.bool true) ∧ Below w.heap.size w w') fun e w' ⟨r, he, hr, hbl⟩ => by
    rcases hr with ⟨hr, _⟩ | ⟨_, hr⟩
    · subst hr; exact ⟨he, hbl⟩
    · exact absurd ok hr)
  clear KN0
  have m0 := ok.m0
  have mt := ok.mt
  have lt := ok.lt
  have NM0 : NodeM w a b d m c c2 k ck fs gs ls lv := ⟨h, h', mt, m0, by have := ok.kt; omega, by have := ok.vt; omega, hk, hkc, hct, hn, fun x hx => by have := ok.ls x hx; omega, fun h0 => by have := ok.kk; omega, fun h0 => by have := ok.kk; omega, by omega⟩
  have NM := Lib.hid NM0
  have OK := Lib.hid ok
  obtain ⟨A, hA⟩ := wrap_nat At
  obtain ⟨p, hp⟩ : ∃ p, p = A % m := ⟨_, rfl⟩
  have hpm : p < m := by rw [hp]; exact Nat.mod_lt _ m0
  have e1 : (IntKind.u64.wrap At).tmod (m : Int) = (p : Int) := by rw [hA, tmod_nat, hp]
  have m0' : ((m : Int) == 0) = false := by simp; omega
  have LF := Lib.hid h.len
  have LG := Lib.hid h'.len
  have LS := Lib.hid hk
  have S1' := Lib.hid fun w1 (hbl : Below w.heap.size w w1) => (h.below hbl).src
  have S2' := Lib.hid fun w1 (hbl : Below w.heap.size w w1) => (h'.below hbl).src
  have S3' := Lib.hid fun w1 (hbl : Below w.heap.size w w1) => nums_src (NM0.below hbl).nums hk
  have N1 := Lib.hid (h.some_ m0)
  have N2 := Lib.hid (h'.some_ m0)
  have N3 := Lib.hid (show d = none → ck = 0 ∧ k = 0 from fun h0 => by have := hd h0; omega)
  have LB := Lib.hid ok.ls
  have KK := Lib.hid ok.kk
  obtain ⟨iS, hiS, hs0, hs1, hs2⟩ := info_parts infoSl
  obtain ⟨iU, hiU, hu0, hu1, hu2⟩ := info_parts infoU64
  obtain ⟨i5, hi5, h50, h51, h52⟩ := info_parts info5
  clear h h' hn hb g1 g2 g1' g2' hk hd ok NM0 hA hp
  by_cases lz : lv = 0 ∨ lv = 255
  · have lz0 : (lv : Int) = 0 ∨ (lv : Int) = 255 := by omega
    rcases lz0 with lz' | lz'
    all_goals rw [lz'] at KN ⊢
    all_goals clear lz lz'
    all_goals (
    go_enter Try.func3, Try.ntmps3
    go_wp2_with (first
    | (go_at_call 4; (with_reducible refine KF.out.mono ?_); rintro e w1 ⟨rfl, rfl⟩)
    | (go_at_call 4; (with_reducible refine KG.out.mono ?_); rintro e w1 ⟨rfl, rfl⟩)
    | (go_at_call 5; (with_reducible refine KN.out.mono ?_); rintro e w1 ⟨rfl, hbel⟩; have BEL := Lib.hid hbel; clear hbel)
    | (at_builtin; refine append_copy 22 27 iS (.slice none 0 0) Try.underlying22 hiS hs0 hs1 24 hs2 rfl (by omega) rfl (.tmp 47) (.tmp 48) rfl rfl a m c rfl N1.out (fs.map Fld.v) (by rw [List.length_map]; exact LF.out) (S1'.out _ BEL.out) (one_v fs) (by omega) ?_; intro v1 W1 O1 B1; obtain ⟨y1, C1, e1', hC1, hM1, hy1, R1⟩ := rowV_own O1.out m0; subst e1')
    | (at_builtin; refine append_copy 22 27 iS (.slice none 0 0) Try.underlying22 hiS hs0 hs1 24 hs2 rfl (by omega) rfl (.tmp 50) (.tmp 51) rfl rfl b m c2 rfl N2.out (gs.map Fld.v) (by rw [List.length_map]; exact LG.out) (S2'.out _ (bw BEL.out B1.out)) (one_v gs) (by omega) ?_; intro v2 W2 O2 B2; obtain ⟨y2, C2, e2', hC2, hM2, hy2, R2⟩ := rowV_own O2.out m0; subst e2')
    | (at_builtin; refine append_copy 23 28 iU (.int .u64 0) Try.underlying23 hiU hu0 hu1 8 hu2 rfl (by omega) rfl (.tmp 53) (.tmp 54) rfl rfl d k ck rfl N3.out (u64s ls) (by rw [u64s, List.length_map]; exact LS.out) (S3'.out _ (bw (bw BEL.out B1.out) B2.out)) (one_u ls) (by omega) ?_; intro v3 W3 O3 B3; obtain ⟨d3, C3, e3', hC3, hM3, R3⟩ := own_u O3.out; subst e3'; have CP := Lib.hid (cp_mk BEL.out B1.out B2.out B3.out R1 R2 LF.out LG.out LS.out hC1 hC2 hC3 hM1 hM2 hM3 hy1 hy2 R3); have hC3' := hM3; have hM1' := hM1; have hM2' := hM2; unfold maxLen at hC3' hM1' hM2'; clear O1 O2 O3 R1 R2 R3 hy1 hy2 BEL B1 B2 B3)
)
    go_ret
    exact ⟨rfl, CP.out.bel⟩)
  have lz' : ¬ (lv : Int) = 0 := by omega
  have lz2 : ¬ (lv : Int) = 255 := by omega
  have L0 := Lib.hid (show 0 < lv by omega)
  have L1 := Lib.hid (show lv < 255 by omega)
  obtain ⟨lv', hlv⟩ : ∃ x, x = lv + 1 := ⟨_, rfl⟩
  have LV := Lib.hid hlv
  have e2 : (lv : Int) + 1 = (lv' : Int) := by omega
  clear lz hlv
  go_enter Try.func3, Try.ntmps3
  go_wp2_with (first
    | (go_at_call 4; (with_reducible refine KF.out.mono ?_); rintro e w1 ⟨rfl, rfl⟩)
    | (go_at_call 4; (with_reducible refine KG.out.mono ?_); rintro e w1 ⟨rfl, rfl⟩)
    | (go_at_call 5; (with_reducible refine KN.out.mono ?_); rintro e w1 ⟨rfl, hbel⟩; have BEL := Lib.hid hbel; clear hbel)
    | (at_builtin; refine append_copy 22 27 iS (.slice none 0 0) Try.underlying22 hiS hs0 hs1 24 hs2 rfl (by omega) rfl (.tmp 47) (.tmp 48) rfl rfl a m c rfl N1.out (fs.map Fld.v) (by rw [List.length_map]; exact LF.out) (S1'.out _ BEL.out) (one_v fs) (by omega) ?_; intro v1 W1 O1 B1; obtain ⟨y1, C1, e1', hC1, hM1, hy1, R1⟩ := rowV_own O1.out m0; subst e1')
    | (at_builtin; refine append_copy 22 27 iS (.slice none 0 0) Try.underlying22 hiS hs0 hs1 24 hs2 rfl (by omega) rfl (.tmp 50) (.tmp 51) rfl rfl b m c2 rfl N2.out (gs.map Fld.v) (by rw [List.length_map]; exact LG.out) (S2'.out _ (bw BEL.out B1.out)) (one_v gs) (by omega) ?_; intro v2 W2 O2 B2; obtain ⟨y2, C2, e2', hC2, hM2, hy2, R2⟩ := rowV_own O2.out m0; subst e2')
    | (at_builtin; refine append_copy 23 28 iU (.int .u64 0) Try.underlying23 hiU hu0 hu1 8 hu2 rfl (by omega) rfl (.tmp 53) (.tmp 54) rfl rfl d k ck rfl N3.out (u64s ls) (by rw [u64s, List.length_map]; exact LS.out) (S3'.out _ (bw (bw BEL.out B1.out) B2.out)) (one_u ls) (by omega) ?_; intro v3 W3 O3 B3; obtain ⟨d3, C3, e3', hC3, hM3, R3⟩ := own_u O3.out; subst e3'; have CP := Lib.hid (cp_mk BEL.out B1.out B2.out B3.out R1 R2 LF.out LG.out LS.out hC1 hC2 hC3 hM1 hM2 hM3 hy1 hy2 R3); have hC3' := hM3; have hM1' := hM1; have hM2' := hM2; unfold maxLen at hC3' hM1' hM2'; clear O1 O2 O3 R1 R2 R3 hy1 hy2 BEL B1 B2 B3; have TW := Lib.hid (tw3 NM.out CP.out L0.out L1.out); rw [← LV.out] at TW)
    | (go_at_call 6; (with_reducible refine (mapMessage _ a b d m c c2 k ck fs gs ls lv TW.out.n1).mono ?_); rintro e W8 ⟨g8, o8, L8, cc8, rfl, hr8, hg8, hb8⟩; have HR8 := Lib.hid hr8; have HB8 := Lib.hid hb8; have TL8 := hr8.le; have TT8 := hr8.top; unfold maxLen at TT8; clear hr8 hg8 hb8)
    | (go_at_call 6; (with_reducible refine (mapMessage _ (some ⟨y1, 0, none⟩) (some ⟨y2, 0, none⟩) d3 m C1 C2 k C3 _ _ _ _ (TW.out.n2.below HB8.out)).mono ?_); rintro e W9 ⟨g9, o9, L9, cc9, rfl, hr9, hg9, hb9⟩; have HR9 := Lib.hid hr9; have HB9 := Lib.hid hb9; have TL9 := hr9.le; have TT9 := hr9.top; unfold maxLen at TT9; clear hr9 hg9 hb9)
    | (go_at_call 7; (with_reducible refine (vaSame _ _ _ _ _ _ _ _ _ (HR8.out.below HB9.out (Nat.le_refl _)) HR9.out).mono ?_); rintro e W10 ⟨rfl, rfl⟩; rw [beq_eq_false_iff_ne.2 TW.out.ne]))
  · go_ret
    exact ⟨rfl, CP.out.bel⟩
  · go_ret
    exact ⟨rfl, bw (bw TW.out.bel HB8.out) HB9.out⟩
end Go.Proofs.Ytegohkgmamnkdaa.Msg
