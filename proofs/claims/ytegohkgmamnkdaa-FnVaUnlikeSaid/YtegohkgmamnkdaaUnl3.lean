/- Two nodes, of which the second is changed as 'how' tells (1): the law walked. No condition. -/
import Derived.Test.YtegohkgmamnkdaaUnl1
set_option linter.unusedVariables false
namespace Go.Proofs.Ytegohkgmamnkdaa.Msg
open Go.ChangeShapes Go.WideShapes Go.ChangeAt Go.RowKit
open Go.Proofs.Ytegohkgmamnkdaa.Dig Go.Proofs.Ytegohkgmamnkdaa.Mem Go.Proofs.Ytegohkgmamnkdaa.Rb
open Go.Proofs.Ytegohkgmamnkdaa.Cnt (encs enc Nums64)

set_option maxRecDepth 100000 in
set_option maxHeartbeats 4000000 in
theorem unlike1 (w : World) (a b d : Option Addr) (m c c2 k ck lv : Nat) (fs gs : List Fld) (ls : List Nat) (At How : Int) (h : Flds w a m c fs) (h' : Flds w b m c2 gs) (hk : ls.length = k) (hkc : k ≤ ck) (hct : ck ≤ maxLen) (hn : Nums64 w d ls) (hd : d = none → ck = 0) (hb : ∀ x ∈ ls, x < 18446744073709551616)
    (g1 : (decide (m ≤ 2147483647) && fits fs) = true) (g2 : (decide (m ≤ 2147483647) && fits gs) = true) (g3 : k ≤ 2147483647) (ok : NodeOk m m k fs gs ls (lv : Int) false) (hq : (IntKind.u64.wrap How).tmod 4 = 1) :
    Calls Try.prog 3 #[.slice a m c, .slice b m c2, .slice d k ck, .int .i64 (lv : Int), .int .i64 At, .int .i64 How] w fun e w' => e = .returned (.bool true) ∧ Below w.heap.size w w' := by
  have hc1 := h.le
  have hc2 := h.top
  have hc3 := h'.le
  have hc4 := h'.top
  have KF := Lib.hid (zzFits w a m c fs h)
  have KG := Lib.hid (zzFits w b m c2 gs h')
  have hct' := hct
  unfold maxLen at hc2 hc4 hct'
  rw [g1] at KF
  rw [g2] at KG
  have q3 : ¬ (2147483647 : Int) < (k : Int) := by omega
  have g1' := g1
  have g2' := g2
  simp only [Bool.and_eq_true, decide_eq_true_eq] at g1' g2'
  have KN0 := vaNode w a b d m c m c2 k ck fs gs ls (lv : Int) false h h' (fits_ok g1'.2) (fits_ok g2'.2) g1'.1 hk g3 hkc hct hn hb (by omega) (by have := ok.lt; omega)
  have KN := Lib.hid (KN0.mono (R' := fun e w' => e = .returned (.bool true) ∧ Below w.heap.size w w') fun e w' ⟨r, he, hr, hbl⟩ => by
    rcases hr with ⟨hr, _⟩ | ⟨_, hr⟩
    · subst hr; exact ⟨he, hbl⟩
    · exact absurd ok hr)
  clear KN0
  have m0 := ok.m0
  have mt := ok.mt
  have lt := ok.lt
  have NM0 : NodeM w a b d m c c2 k ck fs gs ls lv := ⟨h, h', mt, m0, by have := ok.kt; omega, by have := ok.vt; omega, hk, hkc, hct, hn, fun x hx => by have := ok.ls x hx; omega, fun h0 => by have := ok.kk; omega, fun h0 => by have := ok.kk; omega, by omega⟩
  have NM := Lib.hid NM0
  have OK := Lib.hid ok
  obtain ⟨A, hA⟩ := wrap_nat At
  obtain ⟨p, hp⟩ : ∃ p, p = A % m := ⟨_, rfl⟩
  have hpm : p < m := by rw [hp]; exact Nat.mod_lt _ m0
  have e1 : (IntKind.u64.wrap At).tmod (m : Int) = (p : Int) := by rw [hA, tmod_nat, hp]
  have m0' : ((m : Int) == 0) = false := by simp; omega
  have LF := Lib.hid h.len
  have LG := Lib.hid h'.len
  have LS := Lib.hid hk
  have S1' := Lib.hid fun w1 (hbl : Below w.heap.size w w1) => (h.below hbl).src
  have S2' := Lib.hid fun w1 (hbl : Below w.heap.size w w1) => (h'.below hbl).src
  have S3' := Lib.hid fun w1 (hbl : Below w.heap.size w w1) => nums_src (NM0.below hbl).nums hk
  have N1 := Lib.hid (h.some_ m0)
  have N2 := Lib.hid (h'.some_ m0)
  have N3 := Lib.hid (show d = none → ck = 0 ∧ k = 0 from fun h0 => by have := hd h0; omega)
  have LB := Lib.hid ok.ls
  have KK := Lib.hid ok.kk
  obtain ⟨iS, hiS, hs0, hs1, hs2⟩ := info_parts infoSl
  obtain ⟨iU, hiU, hu0, hu1, hu2⟩ := info_parts infoU64
  obtain ⟨i5, hi5, h50, h51, h52⟩ := info_parts info5
  clear h h' hn hb g1 g2 g1' g2' hk hd ok NM0 hA hp
  obtain ⟨fa, hfa⟩ : ∃ x, x = (gs.getD p nof).a := ⟨_, rfl⟩
  obtain ⟨fn, hfn⟩ : ∃ x, x = (gs.getD p nof).n := ⟨_, rfl⟩
  obtain ⟨fc, hfc⟩ : ∃ x, x = (gs.getD p nof).c := ⟨_, rfl⟩
  obtain ⟨fx, hfx⟩ : ∃ x, x = (gs.getD p nof).xs := ⟨_, rfl⟩
  obtain ⟨fn', hfn'⟩ : ∃ x, x = fn + 1 := ⟨_, rfl⟩
  have FO : FldOk w (gs.getD p nof) := NM.out.vals.ok _ (getD_mem (by rw [LG.out]; exact hpm))
  have FN0 := FO.none_
  have FS0 := fun W (hb : Below w.heap.size w W) => FO.src hb
  have FL0 := FO.1.len
  have FB0 := FO.1.byte
  have FM0 : (gs.getD p nof).n ≤ total gs := n_total (by rw [LG.out]; exact hpm)
  have FC0 := FO.1.le
  have FT0 := FO.1.top
  rw [← hfn, ← hfa, ← hfc] at FN0
  rw [← hfn, ← hfa, ← hfx] at FS0
  rw [← hfn, ← hfx] at FL0
  rw [← hfx] at FB0
  rw [← hfn] at FM0
  rw [← hfn, ← hfc] at FC0
  rw [← hfc] at FT0
  unfold maxLen at FT0
  have FM' : fn ≤ 20000 := by have := OK.out.vt; omega
  have FN := Lib.hid FN0
  have FS := Lib.hid FS0
  have FL := Lib.hid (show (bs fx).length = fn by rw [bs_length]; exact FL0)
  have FX := Lib.hid (show (gs.getD p nof).xs = fx from hfx.symm)
  have FB := Lib.hid FB0
  have FE := Lib.hid (show fn' = fn + 1 from hfn')
  have FE' := Lib.hid (show fn = (gs.getD p nof).n from hfn)
  have FV := Lib.hid (show ∀ (W : World), (W.cell? ⟨0, 0, none⟩ = none ∨ True) → (Value.slice (gs.getD p nof).a (gs.getD p nof).n (gs.getD p nof).c) = .slice fa fn fc from fun _ _ => by rw [hfa, hfn, hfc])
  clear hfa hfn hfc hfx hfn' FO FN0 FS0 FL0 FB0 FM0
  by_cases fz : fn = 0
  · have fz' : (fn : Int) = 0 := by omega
    have FZ := Lib.hid fz
    clear fz
    go_enter Try.func3, Try.ntmps3
    go_wp2_with (first
    | (go_at_call 4; (with_reducible refine KF.out.mono ?_); rintro e w1 ⟨rfl, rfl⟩)
    | (go_at_call 4; (with_reducible refine KG.out.mono ?_); rintro e w1 ⟨rfl, rfl⟩)
    | (go_at_call 5; (with_reducible refine KN.out.mono ?_); rintro e w1 ⟨rfl, hbel⟩; have BEL := Lib.hid hbel; clear hbel)
    | (at_builtin; refine append_copy 22 27 iS (.slice none 0 0) Try.underlying22 hiS hs0 hs1 24 hs2 rfl (by omega) rfl (.tmp 47) (.tmp 48) rfl rfl a m c rfl N1.out (fs.map Fld.v) (by rw [List.length_map]; exact LF.out) (S1'.out _ BEL.out) (one_v fs) (by omega) ?_; intro v1 W1 O1 B1; obtain ⟨y1, C1, e1', hC1, hM1, hy1, R1⟩ := rowV_own O1.out m0; subst e1')
    | (at_builtin; refine append_copy 22 27 iS (.slice none 0 0) Try.underlying22 hiS hs0 hs1 24 hs2 rfl (by omega) rfl (.tmp 50) (.tmp 51) rfl rfl b m c2 rfl N2.out (gs.map Fld.v) (by rw [List.length_map]; exact LG.out) (S2'.out _ (bw BEL.out B1.out)) (one_v gs) (by omega) ?_; intro v2 W2 O2 B2; obtain ⟨y2, C2, e2', hC2, hM2, hy2, R2⟩ := rowV_own O2.out m0; subst e2')
    | (at_builtin; refine append_copy 23 28 iU (.int .u64 0) Try.underlying23 hiU hu0 hu1 8 hu2 rfl (by omega) rfl (.tmp 53) (.tmp 54) rfl rfl d k ck rfl N3.out (u64s ls) (by rw [u64s, List.length_map]; exact LS.out) (S3'.out _ (bw (bw BEL.out B1.out) B2.out)) (one_u ls) (by omega) ?_; intro v3 W3 O3 B3; obtain ⟨d3, C3, e3', hC3, hM3, R3⟩ := own_u O3.out; subst e3'; have CP := Lib.hid (cp_mk BEL.out B1.out B2.out B3.out R1 R2 LF.out LG.out LS.out hC1 hC2 hC3 hM1 hM2 hM3 hy1 hy2 R3); have hC3' := hM3; have hM1' := hM1; have hM2' := hM2; unfold maxLen at hC3' hM1' hM2'; clear O1 O2 O3 R1 R2 R3 hy1 hy2 BEL B1 B2 B3; have L0 : W3.cell? ⟨y2, p, none⟩ = some (.slice fa fn fc) := (CP.out.ld2 hpm).trans (congrArg some (FV.out W3 (Or.inr trivial))); have L1 : (W3.alloc (.cells #[] 5)).cell? ⟨y2, p, none⟩ = some (.slice fa fn fc) := ((CP.out.below (al _ _)).ld2 hpm).trans (congrArg some (FV.out W3 (Or.inr trivial))))
)
    go_ret
    exact ⟨rfl, CP.out.bel⟩
  obtain ⟨x, xs, hxe⟩ : ∃ x xs, fx = x :: xs := by
    cases hfx : fx with
    | nil => have := FL.out; rw [hfx] at this; simp [bs] at this; omega
    | cons x xs => exact ⟨x, xs, rfl⟩
  have XE := Lib.hid hxe
  have XB := Lib.hid (show x < 256 from FB.out x (by rw [hxe]; exact List.mem_cons_self ..))
  have xb : x < 256 := XB.out
  obtain ⟨x2, hx2⟩ : ∃ x2, x2 = (x + 1) % 256 := ⟨_, rfl⟩
  have X2 := Lib.hid hx2
  have e2 : ((x : Int) + 1) % 256 = (x2 : Int) := by omega
  clear hx2
  clear hxe
  go_enter Try.func3, Try.ntmps3
  go_wp2_with (first
    | (go_at_call 4; (with_reducible refine KF.out.mono ?_); rintro e w1 ⟨rfl, rfl⟩)
    | (go_at_call 4; (with_reducible refine KG.out.mono ?_); rintro e w1 ⟨rfl, rfl⟩)
    | (go_at_call 5; (with_reducible refine KN.out.mono ?_); rintro e w1 ⟨rfl, hbel⟩; have BEL := Lib.hid hbel; clear hbel)
    | (at_builtin; refine append_copy 22 27 iS (.slice none 0 0) Try.underlying22 hiS hs0 hs1 24 hs2 rfl (by omega) rfl (.tmp 47) (.tmp 48) rfl rfl a m c rfl N1.out (fs.map Fld.v) (by rw [List.length_map]; exact LF.out) (S1'.out _ BEL.out) (one_v fs) (by omega) ?_; intro v1 W1 O1 B1; obtain ⟨y1, C1, e1', hC1, hM1, hy1, R1⟩ := rowV_own O1.out m0; subst e1')
    | (at_builtin; refine append_copy 22 27 iS (.slice none 0 0) Try.underlying22 hiS hs0 hs1 24 hs2 rfl (by omega) rfl (.tmp 50) (.tmp 51) rfl rfl b m c2 rfl N2.out (gs.map Fld.v) (by rw [List.length_map]; exact LG.out) (S2'.out _ (bw BEL.out B1.out)) (one_v gs) (by omega) ?_; intro v2 W2 O2 B2; obtain ⟨y2, C2, e2', hC2, hM2, hy2, R2⟩ := rowV_own O2.out m0; subst e2')
    | (at_builtin; refine append_copy 23 28 iU (.int .u64 0) Try.underlying23 hiU hu0 hu1 8 hu2 rfl (by omega) rfl (.tmp 53) (.tmp 54) rfl rfl d k ck rfl N3.out (u64s ls) (by rw [u64s, List.length_map]; exact LS.out) (S3'.out _ (bw (bw BEL.out B1.out) B2.out)) (one_u ls) (by omega) ?_; intro v3 W3 O3 B3; obtain ⟨d3, C3, e3', hC3, hM3, R3⟩ := own_u O3.out; subst e3'; have CP := Lib.hid (cp_mk BEL.out B1.out B2.out B3.out R1 R2 LF.out LG.out LS.out hC1 hC2 hC3 hM1 hM2 hM3 hy1 hy2 R3); have hC3' := hM3; have hM1' := hM1; have hM2' := hM2; unfold maxLen at hC3' hM1' hM2'; clear O1 O2 O3 R1 R2 R3 hy1 hy2 BEL B1 B2 B3; have L0 : W3.cell? ⟨y2, p, none⟩ = some (.slice fa fn fc) := (CP.out.ld2 hpm).trans (congrArg some (FV.out W3 (Or.inr trivial))); have L1 : (W3.alloc (.cells #[] 5)).cell? ⟨y2, p, none⟩ = some (.slice fa fn fc) := ((CP.out.below (al _ _)).ld2 hpm).trans (congrArg some (FV.out W3 (Or.inr trivial))))
    | (at_builtin; refine append_copy 27 5 i5 (.int .u8 0) Try.underlying27 hi5 h50 h51 1 h52 rfl (by omega) rfl (.tmp 92) (.tmp 96) rfl rfl fa fn fc rfl FN.out (bs fx) FL.out (FS.out _ CP.out.bel) (bs_one _) (by omega) ?_; intro v4 W4 O4 B4; have CP5 := Lib.hid (CP.out.below B4.out); obtain ⟨gx, cx, rfl, hcx, hmx, hgx, rx⟩ := rowV_own O4.out (by omega); rw [XE.out] at rx; obtain ⟨f1, f2, f3, f4⟩ := CP.out.fresh hgx; have TW := Lib.hid (tw1 NM.out CP5.out hpm (gx := gx) (cx := cx) (n := fn) (x := x) (x2 := x2) (xs := xs) FE'.out (FX.out.trans XE.out) XB.out X2.out rx hcx hmx f1 f2 f3 f4); have f2' : ¬ y2 = gx := Ne.symm f2; have S1 : W4.frozen? ⟨y2, p, none⟩ = false := CP5.out.r2.free; have S2 : W4.cell? ⟨y2, p, none⟩ = some (.slice fa fn fc) := (CP5.out.ld2 hpm).trans (congrArg some (FV.out W3 (Or.inr trivial))); have S3 : (W4.setCell ⟨y2, p, none⟩ (.slice (some ⟨gx, 0, none⟩) fn cx)).cell? ⟨y2, p, none⟩ = some (.slice (some ⟨gx, 0, none⟩) fn cx) := ((CP5.out.set2 hpm ⟨some ⟨gx, 0, none⟩, fn, cx, []⟩).ld2 hpm).trans (by rw [getD_set_self (by rw [LG.out]; exact hpm)]); have S4 : (W4.setCell ⟨y2, p, none⟩ (.slice (some ⟨gx, 0, none⟩) fn cx)).cell? ⟨gx, 0, none⟩ = some (.int .u8 (x : Int)) := (rx.other (Ne.symm f2)).cell (i := 0) (by simp [bs]); have S5 : (W4.setCell ⟨y2, p, none⟩ (.slice (some ⟨gx, 0, none⟩) fn cx)).frozen? ⟨gx, 0, none⟩ = false := (rx.other (Ne.symm f2)).free; unfold maxLen at hmx; clear rx O4 f1 f2 f3 f4)
    | (go_at_call 6; (with_reducible refine (mapMessage _ a b d m c c2 k ck fs gs ls lv TW.out.n1).mono ?_); rintro e W8 ⟨g8, o8, L8, cc8, rfl, hr8, hg8, hb8⟩; have HR8 := Lib.hid hr8; have HB8 := Lib.hid hb8; have TL8 := hr8.le; have TT8 := hr8.top; unfold maxLen at TT8; clear hr8 hg8 hb8)
    | (go_at_call 6; (with_reducible refine (mapMessage _ (some ⟨y1, 0, none⟩) (some ⟨y2, 0, none⟩) d3 m C1 C2 k C3 _ _ _ _ (TW.out.n2.below HB8.out)).mono ?_); rintro e W9 ⟨g9, o9, L9, cc9, rfl, hr9, hg9, hb9⟩; have HR9 := Lib.hid hr9; have HB9 := Lib.hid hb9; have TL9 := hr9.le; have TT9 := hr9.top; unfold maxLen at TT9; clear hr9 hg9 hb9)
    | (go_at_call 7; (with_reducible refine (vaSame _ _ _ _ _ _ _ _ _ (HR8.out.below HB9.out (Nat.le_refl _)) HR9.out).mono ?_); rintro e W10 ⟨rfl, rfl⟩; rw [beq_eq_false_iff_ne.2 TW.out.ne]))
  go_ret
  exact ⟨rfl, bw (bw TW.out.bel HB8.out) HB9.out⟩
end Go.Proofs.Ytegohkgmamnkdaa.Msg
