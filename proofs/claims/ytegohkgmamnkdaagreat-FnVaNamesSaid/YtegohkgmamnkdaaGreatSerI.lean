/- The message of an inner node of a map, walked. Condition: at most 200 items, 20000 bytes. -/
import Derived.Test.YtegohkgmamnkdaaGreatSerL
import Derived.Lib.SlBytesConst
set_option linter.unusedVariables false
namespace Go.Proofs.YtegohkgmamnkdaaGreat.Msg
open Go.ChangeShapes Go.WideShapes Go.ChangeAt Go.RowKit
open Go.Proofs.YtegohkgmamnkdaaGreat.Dig Go.Proofs.YtegohkgmamnkdaaGreat.Mem Go.Proofs.YtegohkgmamnkdaaGreat.Rb
open Go.Proofs.YtegohkgmamnkdaaGreat.Cnt (encs enc Nums64)

set_option maxRecDepth 100000 in
set_option maxHeartbeats 4000000 in
theorem serInn (w : World) (a b d : Option Addr) (m c c' ck kn vn lv : Nat) (fs gs : List Fld) (ls : List Nat) (h : Flds w a m c fs) (h' : Flds w b m c' gs) (hm : m ≤ 200) (hm0 : 0 < m) (hkn : kn = total fs) (hvn : vn = total gs) (hkb : kn ≤ 20010) (hvb : vn ≤ 20010) (hv0 : ck ≤ maxLen) (hck : m ≤ ck) (hl : ls.length = m) (hlb : ∀ x ∈ ls, x ≤ 2199023255552) (hnum : Nums64 w d ls) (hlv : 0 < lv) (hlv2 : lv ≤ 255) :
    Calls Tryz.prog 18 #[.agg #[.iface 48 (.int .u8 0)], .slice a m c, .slice b m c', .slice d m ck, .int .i64 (lv : Int)] w fun e w' => ∃ g o L cc, e = .returned (.slice (some ⟨g, o, none⟩) L cc) ∧ RB w' (some ⟨g, o, none⟩) L cc (msgMap fs gs ls m lv) ∧ w.heap.size ≤ g ∧ Below w.heap.size w w' := by
  obtain ⟨Z, hZ⟩ : ∃ Z, Z = kn + vn + 10 * m + 4 * m + 183 := ⟨_, rfl⟩
  have hc1 := h.le
  have hc2 := h.top
  have hc3 := h'.le
  have hc4 := h'.top
  unfold maxLen at hc2 hc4 hv0
  have KE := Lib.hid fun w1 (hb : Below w.heap.size w w1) => estMap w1 a b d m c c' m ck kn vn Z fs gs (h.below hb) (h'.below hb) hm (by omega) hkn hvn hkb hvb hZ
  have bZ : Z ≤ 100000 := by omega
  have bZ0 : 0 < Z := by omega
  have HF := Lib.hid fun w1 (hb : Below w.heap.size w w1) => h.below hb
  have HG := Lib.hid fun w1 (hb : Below w.heap.size w w1) => h'.below hb
  have HKN := Lib.hid hkn
  have HVN := Lib.hid hvn
  obtain ⟨m1, hm1⟩ : ∃ m1, m1 = m - 1 := ⟨_, rfl⟩
  have q1 : (m : Int) - 1 = (m1 : Int) := by omega
  have HM1 := Lib.hid hm1
  have bm1 : m1 ≤ 199 := by omega
  have x1 := keysX_le (m := m) h.ok
  have x2 := valsX_le (m := m) h.ok h'.ok
  have x3 := innX_le (ls := ls) (m := m) h.ok h'.ok
  obtain ⟨X, hX⟩ : ∃ X, X = innX fs gs ls m := ⟨_, rfl⟩
  rw [← hX] at x3
  obtain ⟨L1, hL1⟩ : ∃ L1, L1 = (vec (cat fs) []).length := ⟨_, rfl⟩
  obtain ⟨L2, hL2⟩ : ∃ L2, L2 = (keysX fs m).length := ⟨_, rfl⟩
  obtain ⟨L3, hL3⟩ : ∃ L3, L3 = (valsX fs gs m).length := ⟨_, rfl⟩
  obtain ⟨L4, hL4⟩ : ∃ L4, L4 = X.length := ⟨_, rfl⟩
  have z1 : 0 < L1 := by rw [hL1, vec_length]; omega
  have N1 := Lib.hid (show ([] : List Nat).length + 8 + kn < Z * 2 by simp only [List.length_nil]; omega)
  have N2 := Lib.hid (show (vec (cat fs) []).length + 8 + 2 * (m - 1) < Z * 2 by omega)
  have N3 := Lib.hid (show (keysX fs m).length + 8 + vn < Z * 2 by omega)
  have N4 := Lib.hid (show (valsX fs gs m).length + 8 + 10 * m < Z * 2 by omega)
  have N5 := Lib.hid (show L4 + 140 < Z * 2 by omega)
  have z2 : L1 ≤ L2 := by omega
  have z3 : L2 ≤ L3 := by omega
  have z4 : L3 ≤ L4 := by omega
  have bL4 : L4 ≤ 200000 := by omega
  obtain ⟨su, hsu⟩ : ∃ su, su = sumU ls := ⟨_, rfl⟩
  have hsub : su ≤ 2199023255552 * 200 := by
    rw [hsu]
    refine Nat.le_trans (sumU_le hlb) ?_
    rw [hl]; exact Nat.mul_le_mul_left _ hm
  have HSU := Lib.hid hsu
  have HLS := Lib.hid hl
  have HLB := Lib.hid hlb
  have HLB2 := Lib.hid (show ∀ x ∈ ls, x < 18446744073709551616 from fun x hx => by have := hlb x hx; omega)
  have HNUM := Lib.hid fun w1 (hb : Below w.heap.size w w1) => (show Nums64 w1 d ls from fun h0 => by
    obtain ⟨b, o, e, hlt, hcc⟩ := hnum h0
    exact ⟨b, o, e, Nat.lt_of_lt_of_le hlt hb.size, fun i hi => (hb.cell (p := ⟨b, o + i, none⟩) hlt).trans (hcc i hi)⟩)
  have lv0 : ((lv : Int) == 0) = false := by simp; omega
  have hlv' : ¬ (lv : Int) = 0 := by omega
  have HX := Lib.hid hX
  have hconv : ∀ w : World, (convert 26 26 (.slice (some ⟨w.heap.size, 0, none⟩) 4 4)).run Tryz.prog (w.alloc (.cells #[.int .u8 84, .int .u8 85, .int .u8 80, .int .u8 77] 5)) = .ok (.slice (some ⟨w.heap.size, 0, none⟩) 4 4) (w.alloc (.cells #[.int .u8 84, .int .u8 85, .int .u8 80, .int .u8 77] 5 (4, 5))) := fun w =>
    Lib.run_convert_bytes_const w 26 5 #[.int .u8 84, .int .u8 85, .int .u8 80, .int .u8 77] 4 4 Tryz.underlying26 Tryz.underlying5
  have HL2o := Lib.hid (show L2 = (offv fs m (vec (cat fs) [])).length from hL2)
  have HL3o := Lib.hid (show L3 = (vec (cat gs) (keysX fs m)).length from hL3)
  have HL4o := Lib.hid (show L4 = (vec (encs 0 ls) (valsX fs gs m)).length by rw [hL4, hX]; rfl)
  have HL1 := Lib.hid hL1
  have HL2 := Lib.hid hL2
  have HL3 := Lib.hid hL3
  have HL4 := Lib.hid hL4
  have HZ := Lib.hid hZ
  clear h h' hkn hvn hZ hm1 x1 x2 x3 hX hL1 hL2 hL3 hL4 hsu hl hlb hnum
  go_enter Tryz.func18, Tryz.ntmps18
  go_wp2_with (first
    | (go_at_call 48; (with_reducible refine (KE.out _ ((Below.refl _ _).alloc (Nat.le_refl _) _)).mono ?_); rintro e w0 ⟨rfl, rfl⟩; have BW := Lib.hid (show Below w.heap.size w _ from (Below.refl _ _).alloc (Nat.le_refl _) (.cells #[.iface 48 (.int .u8 0)] 46)))
    | (go_at_call 20; (with_reducible refine (getB _ Z bZ bZ0).mono ?_); rintro e w1 ⟨B, VT, rfl, h1⟩; generalize hW0 : World.alloc w _ = W0 at h1 BW; clear hW0; have F0 := Lib.hid (fine1 bZ bZ0 (St0 VT) (Or.inl rfl)); have F1 := Lib.hid (fine1 bZ bZ0 (S1 VT) (Or.inr (Or.inl rfl))); have F1n := Lib.hid (fine1 bZ bZ0 ({ S1 VT with ne := true } : St) (Or.inr (Or.inl rfl))); have H1 := Lib.hid h1; clear h1)
    | (go_at_call 21; (with_reducible refine (itemsV H1.out F0.out rfl (HF.out _ BW.out) hm HKN.out hkb N1.out L1 HL1.out).mono ?_); rintro e w2 ⟨rfl, h2⟩; have H2 := Lib.hid (bx_st h2 (s' := S1 VT) rfl); clear h2)
    | (go_at_call 49; (with_reducible refine (nStartKeyOffsets w2 B (m1 : Int) _ (startV H2.out F1.out rfl (Nat.le_refl _) hm N2.out _ (by rw [← HM1.out]))).mono ?_); rintro e w3 ⟨⟨v3, rfl⟩, h3⟩; have H3 := Lib.hid h3; clear h3)
    | (go_at_call 23; (with_reducible refine (offsV H3.out F1n.out rfl (Nat.le_refl _) (HF.out _ BW.out) hm hm0 HKN.out hkb N2.out L2 HL2o.out).mono ?_); rintro e w4 ⟨rfl, h4⟩; have h4' : Bx W0 w4 B Z 0 _ (keysX fs m) (S1 VT) := h4; have H4 := Lib.hid h4'; clear h4 h4')
    | (go_at_call 21; (with_reducible refine (itemsV H4.out F1.out rfl (HG.out _ BW.out) hm HVN.out hvb N3.out L3 HL3o.out).mono ?_); rintro e w5 ⟨rfl, h5⟩; have h5' : Bx W0 w5 B Z 0 _ (valsX fs gs m) (S1 VT) := h5; have H5 := Lib.hid h5'; clear h5 h5')
    | (go_at_call 24; (with_reducible refine (countsV H5.out F1.out rfl HLS.out hm HLB2.out (HNUM.out _ BW.out) N4.out L4 HL4o.out).mono ?_); rintro e w7 ⟨rfl, h7⟩; have h7' : Bx W0 w7 B Z 0 _ X (S1 VT) := (by rw [HX.out]; exact h7); have H7 := Lib.hid h7'; clear h7 h7')
    | (go_at_call 51; (with_reducible refine (nStart w7 B _ (startO H7.out rfl rfl 11 (by omega) (by omega) L4 HL4.out 11 rfl)).mono ?_); rintro e w8 ⟨rfl, V, hV, h8⟩; have HV := Lib.hid (show ∀ q ∈ [(VT, UO (zr 16))], q.1 ≠ V from hV); have F2 := Lib.hid (fine1 bZ bZ0 (S2 VT V L4 11 4) (Or.inr (Or.inl rfl))); have u0 := und_start 11 X; rw [← HL4.out] at u0; have U0 := Lib.hid u0; have H8 := Lib.hid (bx_st (s' := S2 VT V L4 11 4) h8 rfl); clear h8 hV u0)
    | (go_at_call 52; (with_reducible refine (nAddKeyItems w8 B (L1 : Int) _ (stepU (p := (zr 11, X)) H8.out F2.out HV.out rfl U0.out (by have := N5.out; omega) (Nat.le_refl _) 0 L1 (by omega) (putU_low U0.out (by omega)) (by omega) 0 rfl)).mono ?_); rintro e w9 ⟨rfl, h9⟩; have U1 := Lib.hid (und_U U0.out 0 L1); have H9 := Lib.hid h9; clear h9)
    | (go_at_call 53; (with_reducible refine (nAddKeyOffsets w9 B (L2 : Int) _ (stepU (p := (putU 0 L1 (zr 11, X))) H9.out F2.out HV.out rfl U1.out (by have := N5.out; omega) (Nat.le_refl _) 1 L2 (by omega) (putU_low U1.out (by omega)) (by omega) 1 rfl)).mono ?_); rintro e w10 ⟨rfl, h10⟩; have U2 := Lib.hid (und_U U1.out 1 L2); have H10 := Lib.hid h10; clear h10)
    | (go_at_call 57; (with_reducible refine (nAddAddressArray w10 B (L3 : Int) _ (stepU (p := (putU 1 L2 (putU 0 L1 (zr 11, X)))) H10.out F2.out HV.out rfl U2.out (by have := N5.out; omega) (Nat.le_refl _) 7 L3 (by omega) (putU_low U2.out (by omega)) (by omega) 7 rfl)).mono ?_); rintro e w11 ⟨rfl, h11⟩; have U3 := Lib.hid (und_U U2.out 7 L3); have H11 := Lib.hid h11; clear h11)
    | (go_at_call 58; (with_reducible refine (nAddSubtreeCounts w11 B (L4 : Int) _ (stepU (p := (putU 7 L3 (putU 1 L2 (putU 0 L1 (zr 11, X))))) H11.out F2.out HV.out rfl U3.out (by have := N5.out; omega) (Nat.le_refl _) 8 L4 (by omega) (putU_low U3.out (by omega)) (by omega) 8 rfl)).mono ?_); rintro e w12 ⟨rfl, h12⟩; have U4 := Lib.hid (und_U U3.out 8 L4); have H12 := Lib.hid h12; clear h12)
    | (go_at_call 31; (with_reducible refine (sumSubtrees w12 d m ck ls HLS.out (by omega) HLB.out (HNUM.out _ (BW.out.trans (H12.out.bel.mono BW.out.size)))).mono ?_); rintro e w' ⟨rfl, rfl⟩; rw [← HSU.out])
    | (go_at_call 56; (with_reducible refine (nAddTreeCount w12 B (su : Int) _ (step8 (p := (putU 8 L4 (putU 7 L3 (putU 1 L2 (putU 0 L1 (zr 11, X)))))) H12.out F2.out HV.out rfl U4.out (by have := N5.out; omega) 9 su (by omega) (by omega) 9 rfl)).mono ?_); rintro e w13 ⟨rfl, h13⟩; have U5 := Lib.hid (und_N (k := 8) U4.out (by omega) 9 su); obtain ⟨ma, hma⟩ : ∃ ma, ma = (if su = 0 then 4 else 8) := ⟨_, rfl⟩; have e8 : ma8 (S2 VT V L4 11 4) su = S2 VT V L4 11 ma := (by unfold ma8; rw [hma]; split <;> rfl); have hma2 : ma = 4 ∨ ma = 8 := (by rw [hma]; split <;> simp); have hma4 : 4 ≤ ma := (by omega); have HMA := Lib.hid hma; have HMA2 := Lib.hid hma2; have F8 := Lib.hid (fine1 bZ bZ0 (S2 VT V L4 11 ma) (Or.inr hma2)); have MA1 := Lib.hid (show 1 ≤ (S2 VT V L4 11 ma).ma from (by show 1 ≤ ma; omega)); have MA4 := Lib.hid (show 4 ≤ (S2 VT V L4 11 ma).ma from (by show 4 ≤ ma; omega)); have H13 := Lib.hid (bx_st h13 e8); clear h13 e8 hma hma2)
    | (go_at_call 59; (with_reducible refine (nAddKeyType w13 B 1 _ (stepB (p := (putN 8 9 su (putU 8 L4 (putU 7 L3 (putU 1 L2 (putU 0 L1 (zr 11, X))))))) H13.out F8.out HV.out rfl U5.out (by have := N5.out; omega) MA1.out 2 1 (by omega) (by omega) 2 rfl 1 rfl)).mono ?_); rintro e w14 ⟨rfl, h14⟩; have U6 := Lib.hid (und_N (k := 1) U5.out (by omega) 2 1); have H14 := Lib.hid h14; clear h14)
    | (go_at_call 60; (with_reducible refine (nAddValueType w14 B 1 _ (stepB (p := (putN 1 2 1 (putN 8 9 su (putU 8 L4 (putU 7 L3 (putU 1 L2 (putU 0 L1 (zr 11, X)))))))) H14.out F8.out HV.out rfl U6.out (by have := N5.out; omega) MA1.out 5 1 (by omega) (by omega) 5 rfl 1 rfl)).mono ?_); rintro e w15 ⟨rfl, h15⟩; have U7 := Lib.hid (und_N (k := 1) U6.out (by omega) 5 1); have H15 := Lib.hid h15; clear h15)
    | (go_at_call 61; (with_reducible refine (nAddTreeLevel w15 B (lv : Int) _ (stepB (p := (putN 1 5 1 (putN 1 2 1 (putN 8 9 su (putU 8 L4 (putU 7 L3 (putU 1 L2 (putU 0 L1 (zr 11, X))))))))) H15.out F8.out HV.out rfl U7.out (by have := N5.out; omega) MA1.out 10 lv (by omega) (by omega) 10 rfl (lv : Int) rfl)).mono ?_); rintro e w16 ⟨rfl, h16⟩; have U8 := Lib.hid (und_N (k := 1) U7.out (by omega) 10 lv); have H16 := Lib.hid h16; clear h16; have LAST := Lib.hid (show ((putN 1 10 lv (putN 1 5 1 (putN 1 2 1 (putN 8 9 su (putU 8 L4 (putU 7 L3 (putU 1 L2 (putU 0 L1 (zr 11, X)))))))))).1.getD 10 0 ≠ 0 from (by rw [putN_at (by omega) (by simp only [putN_len, putU_len, zr_length]; omega), ysN_length]; omega)); have ZZ := Lib.hid (show ∀ i, 11 ≤ i → i < 11 → ((putN 1 10 lv (putN 1 5 1 (putN 1 2 1 (putN 8 9 su (putU 8 L4 (putU 7 L3 (putU 1 L2 (putU 0 L1 (zr 11, X)))))))))).1.getD i 0 = 0 from (fun i h1 h2 => by omega)); obtain ⟨QQ, hQQ⟩ : ∃ QQ, QQ = ((putN 1 10 lv (putN 1 5 1 (putN 1 2 1 (putN 8 9 su (putU 8 L4 (putU 7 L3 (putU 1 L2 (putU 0 L1 (zr 11, X)))))))))).2.length + padOf 4 ((putN 1 10 lv (putN 1 5 1 (putN 1 2 1 (putN 8 9 su (putU 8 L4 (putU 7 L3 (putU 1 L2 (putU 0 L1 (zr 11, X)))))))))).2.length + 4 := ⟨_, rfl⟩; have HQQ := Lib.hid hQQ; clear hQQ)
    | (go_at_call 62; (with_reducible refine (nEnd w16 B (QQ : Int) _ (stepEnd (p := (putN 1 10 lv (putN 1 5 1 (putN 1 2 1 (putN 8 9 su (putU 8 L4 (putU 7 L3 (putU 1 L2 (putU 0 L1 (zr 11, X)))))))))) (t := 11) (oe := L4) H16.out F8.out rfl (fun q hq => by simp at hq) (HV.out (VT, UO (zr 16)) (by simp)) rfl rfl (zr_length 16) rfl U8.out (by omega) (by omega) (by omega) LAST.out ZZ.out (by have := N5.out; omega) (by omega) MA4.out QQ HQQ.out)).mono ?_); rintro e w17 ⟨rfl, h17⟩; have H17 := Lib.hid (bx_st (s' := S3 VT V L4 11 ma) h17 rfl); clear h17; have HP := Lib.hid (show Bx W0 (w17.alloc (.cells #[.int .u8 84, .int .u8 85, .int .u8 80, .int .u8 77] 5 (4, 5))) B Z 0 ((w17.heap.size, .cells (bs fidMap).toArray 5 (4, 5)) :: []) _ _ from H17.out.push _); have F9 := Lib.hid (fine1 bZ bZ0 (S3 VT V L4 11 ma) (Or.inr HMA2.out)); have TOP := Lib.hid (show ((putN 1 10 lv (putN 1 5 1 (putN 1 2 1 (putN 8 9 su (putU 8 L4 (putU 7 L3 (putU 1 L2 (putU 0 L1 (zr 11, X)))))))))).2.length + 90 < Z * 2 from (by have := N5.out; have := U8.out.top; omega)))
    | (go_at_call 33; (with_reducible refine (stepFin (p := (putN 1 10 lv (putN 1 5 1 (putN 1 2 1 (putN 8 9 su (putU 8 L4 (putU 7 L3 (putU 1 L2 (putU 0 L1 (zr 11, X)))))))))) (oe := L4) (t := 11) HP.out F9.out rfl ma rfl HMA2.out (List.mem_cons_self ..) rfl (by simp [fidMap]) TOP.out (by omega) HQQ.out).mono ?_); rintro e w18 ⟨rfl, h18⟩; obtain ⟨LL, hLL⟩ : ∃ LL, LL = (msgMap fs gs ls m lv).length := ⟨_, rfl⟩; have hmsg : (msgMap fs gs ls m lv) = finO ma QQ fidMap (endO ((putN 1 10 lv (putN 1 5 1 (putN 1 2 1 (putN 8 9 su (putU 8 L4 (putU 7 L3 (putU 1 L2 (putU 0 L1 (zr 11, X)))))))))).1 ((putN 1 10 lv (putN 1 5 1 (putN 1 2 1 (putN 8 9 su (putU 8 L4 (putU 7 L3 (putU 1 L2 (putU 0 L1 (zr 11, X)))))))))).2 L4 11) := (by rw [msgMap, if_neg (by omega), ← HSU.out, ← HMA.out, HQQ.out, HL4.out, HX.out, HL1.out, HL2.out, HL3.out]; rfl); rw [← hmsg] at h18; have hpos : 0 < LL := (by rw [hLL]; unfold msgMap; rw [if_neg (by omega)]; exact msgO_length _ _ _ _); have HLL := Lib.hid hLL; have H18 := Lib.hid h18; clear h18 hLL hmsg)
    | (go_at_call 35; (with_reducible refine (finBytes H18.out rfl HLL.out hpos).mono ?_); rintro e w19 ⟨g, o, cc, rfl, h19, hg, hbel⟩; have H19 := Lib.hid h19; have HG9 := Lib.hid hg; have HB9 := Lib.hid hbel; clear h19 hg hbel))
  go_ret
  exact ⟨g, o, LL, cc, rfl, H19.out, Nat.le_trans BW.out.size HG9.out, BW.out.trans (HB9.out.mono BW.out.size)⟩
end Go.Proofs.YtegohkgmamnkdaaGreat.Msg
