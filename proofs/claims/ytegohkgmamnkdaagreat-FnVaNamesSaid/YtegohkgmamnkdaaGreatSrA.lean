/- The message of a node of names, walked: a leaf, an inner node. Condition: at most 200 items, 20000 bytes. -/
import Derived.Test.YtegohkgmamnkdaaGreatEsA
import Derived.Lib.SlBytesConst
set_option linter.unusedVariables false
namespace Go.Proofs.YtegohkgmamnkdaaGreat.Msg
open Go.ChangeShapes Go.WideShapes Go.ChangeAt Go.RowKit
open Go.Proofs.YtegohkgmamnkdaaGreat.Dig Go.Proofs.YtegohkgmamnkdaaGreat.Mem Go.Proofs.YtegohkgmamnkdaaGreat.Rb
open Go.Proofs.YtegohkgmamnkdaaGreat.Cnt (encs enc Nums64)

set_option maxRecDepth 100000 in
set_option maxHeartbeats 4000000 in
theorem serAL (w : World) (a b d : Option Addr) (m c c' ck kn vn : Nat) (fs gs : List Fld) (h : Flds w a m c fs) (h' : Flds w b m c' gs) (hm : m ≤ 200) (hm0 : 0 < m) (hkn : kn = total fs) (hvn : vn = total gs) (hkb : kn ≤ 20010) (hvb : vn ≤ 20010) (hv0 : ck ≤ maxLen) :
    Calls Tryz.prog 14 #[.agg #[.iface 48 (.int .u8 0)], .slice a m c, .slice b m c', .slice d 0 ck, .int .i64 0] w fun e w' => ∃ g o L cc, e = .returned (.slice (some ⟨g, o, none⟩) L cc) ∧ RB w' (some ⟨g, o, none⟩) L cc (msgAdr fs gs [] m 0) ∧ w.heap.size ≤ g ∧ Below w.heap.size w w' := by
  obtain ⟨Z, hZ⟩ : ∃ Z, Z = kn + vn + 2 * m + 10 * 0 + 83 := ⟨_, rfl⟩
  have hc1 := h.le
  have hc2 := h.top
  have hc3 := h'.le
  have hc4 := h'.top
  unfold maxLen at hc2 hc4 hv0
  have KE := Lib.hid fun w1 (hb : Below w.heap.size w w1) => estAdr w1 a b d m c c' 0 ck kn vn Z fs gs (h.below hb) (h'.below hb) hm (by omega) hkn hvn hkb hvb hZ
  have bZ : Z ≤ 100000 := by omega
  have bZ0 : 0 < Z := by omega
  have HF := Lib.hid fun w1 (hb : Below w.heap.size w w1) => h.below hb
  have HG := Lib.hid fun w1 (hb : Below w.heap.size w w1) => h'.below hb
  have HKN := Lib.hid hkn
  have HVN := Lib.hid hvn
  obtain ⟨m1, hm1⟩ : ∃ m1, m1 = m - 1 := ⟨_, rfl⟩
  have q1 : (m : Int) - 1 = (m1 : Int) := by omega
  have HM1 := Lib.hid hm1
  have bm1 : m1 ≤ 199 := by omega
  have x1 := keysX_le (m := m) h.ok
  have x2 := valsX_le (m := m) h.ok h'.ok
  have x3 := valsX_le (m := m) h.ok h'.ok
  obtain ⟨X, hX⟩ : ∃ X, X = valsX fs gs m := ⟨_, rfl⟩
  rw [← hX] at x3
  obtain ⟨L1, hL1⟩ : ∃ L1, L1 = (vec (cat fs) []).length := ⟨_, rfl⟩
  obtain ⟨L2, hL2⟩ : ∃ L2, L2 = (keysX fs m).length := ⟨_, rfl⟩
  obtain ⟨L3, hL3⟩ : ∃ L3, L3 = (valsX fs gs m).length := ⟨_, rfl⟩
  obtain ⟨L4, hL4⟩ : ∃ L4, L4 = X.length := ⟨_, rfl⟩
  have z1 : 0 < L1 := by rw [hL1, vec_length]; omega
  have N1 := Lib.hid (show ([] : List Nat).length + 8 + kn < Z * 2 by simp only [List.length_nil]; omega)
  have N2 := Lib.hid (show (vec (cat fs) []).length + 8 + 2 * (m - 1) < Z * 2 by omega)
  have N3 := Lib.hid (show (keysX fs m).length + 8 + vn < Z * 2 by omega)
  have N5 := Lib.hid (show L4 + 140 < Z * 2 by omega)
  have z2 : L1 ≤ L2 := by omega
  have z3 : L2 ≤ L3 := by omega
  have z4 : L3 ≤ L4 := by rw [hL3, hL4, hX]; omega
  have bL4 : L4 ≤ 200000 := by omega
  have HX := Lib.hid hX
  have hconv : ∀ w : World, (convert 26 26 (.slice (some ⟨w.heap.size, 0, none⟩) 4 4)).run Tryz.prog (w.alloc (.cells #[.int .u8 65, .int .u8 68, .int .u8 82, .int .u8 77] 5)) = .ok (.slice (some ⟨w.heap.size, 0, none⟩) 4 4) (w.alloc (.cells #[.int .u8 65, .int .u8 68, .int .u8 82, .int .u8 77] 5 (4, 5))) := fun w =>
    Lib.run_convert_bytes_const w 26 5 #[.int .u8 65, .int .u8 68, .int .u8 82, .int .u8 77] 4 4 Tryz.underlying26 Tryz.underlying5
  have HL2o := Lib.hid (show L2 = (offv fs m (vec (cat fs) [])).length from hL2)
  have HL3o := Lib.hid (show L3 = (vec (cat gs) (keysX fs m)).length from hL3)
  have HL1 := Lib.hid hL1
  have HL2 := Lib.hid hL2
  have HL3 := Lib.hid hL3
  have HL4 := Lib.hid hL4
  have HZ := Lib.hid hZ
  clear h h' hkn hvn hZ hm1 x1 x2 x3 hX hL1 hL2 hL3 hL4
  go_enter Tryz.func14, Tryz.ntmps14
  go_wp2_with (first
    | (go_at_call 19; (with_reducible refine (KE.out _ ((Below.refl _ _).alloc (Nat.le_refl _) _)).mono ?_); rintro e w0 ⟨rfl, rfl⟩; have BW := Lib.hid (show Below w.heap.size w _ from (Below.refl _ _).alloc (Nat.le_refl _) (.cells #[.iface 48 (.int .u8 0)] 39)))
    | (go_at_call 20; (with_reducible refine (getB _ Z bZ bZ0).mono ?_); rintro e w1 ⟨B, VT, rfl, h1⟩; generalize hW0 : World.alloc w _ = W0 at h1 BW; clear hW0; have F0 := Lib.hid (fine1 bZ bZ0 (St0 VT) (Or.inl rfl)); have F1 := Lib.hid (fine1 bZ bZ0 (S1 VT) (Or.inr (Or.inl rfl))); have F1n := Lib.hid (fine1 bZ bZ0 ({ S1 VT with ne := true } : St) (Or.inr (Or.inl rfl))); have H1 := Lib.hid h1; clear h1)
    | (go_at_call 21; (with_reducible refine (itemsV H1.out F0.out rfl (HF.out _ BW.out) hm HKN.out hkb N1.out L1 HL1.out).mono ?_); rintro e w2 ⟨rfl, h2⟩; have H2 := Lib.hid (bx_st h2 (s' := S1 VT) rfl); clear h2)
    | (go_at_call 22; (with_reducible refine (aStartKeyOffsets w2 B (m1 : Int) _ (startV H2.out F1.out rfl (Nat.le_refl _) hm N2.out _ (by rw [← HM1.out]))).mono ?_); rintro e w3 ⟨⟨v3, rfl⟩, h3⟩; have H3 := Lib.hid h3; clear h3)
    | (go_at_call 23; (with_reducible refine (offsV H3.out F1n.out rfl (Nat.le_refl _) (HF.out _ BW.out) hm hm0 HKN.out hkb N2.out L2 HL2o.out).mono ?_); rintro e w4 ⟨rfl, h4⟩; have h4' : Bx W0 w4 B Z 0 _ (keysX fs m) (S1 VT) := h4; have H4 := Lib.hid h4'; clear h4 h4')
    | (go_at_call 21; (with_reducible refine (itemsV H4.out F1.out rfl (HG.out _ BW.out) hm HVN.out hvb N3.out L3 HL3o.out).mono ?_); rintro e w5 ⟨rfl, h5⟩; have h5' : Bx W0 w5 B Z 0 _ X (S1 VT) := (by rw [HX.out]; exact h5); have H5 := Lib.hid h5'; clear h5 h5')
    | (go_at_call 25; (with_reducible refine (aStart w5 B _ (startO H5.out rfl rfl 6 (by omega) (by omega) L4 HL4.out 6 rfl)).mono ?_); rintro e w8 ⟨rfl, V, hV, h8⟩; have HV := Lib.hid (show ∀ q ∈ [(VT, UO (zr 16))], q.1 ≠ V from hV); have F2 := Lib.hid (fine1 bZ bZ0 (S2 VT V L4 6 4) (Or.inr (Or.inl rfl))); have u0 := und_start 6 X; rw [← HL4.out] at u0; have U0 := Lib.hid u0; have H8 := Lib.hid (bx_st (s' := S2 VT V L4 6 4) h8 rfl); clear h8 hV u0)
    | (go_at_call 26; (with_reducible refine (aAddKeyItems w8 B (L1 : Int) _ (stepU (p := (zr 6, X)) H8.out F2.out HV.out rfl U0.out (by have := N5.out; omega) (Nat.le_refl _) 0 L1 (by omega) (putU_low U0.out (by omega)) (by omega) 0 rfl)).mono ?_); rintro e w9 ⟨rfl, h9⟩; have U1 := Lib.hid (und_U U0.out 0 L1); have H9 := Lib.hid h9; clear h9)
    | (go_at_call 27; (with_reducible refine (aAddKeyOffsets w9 B (L2 : Int) _ (stepU (p := (putU 0 L1 (zr 6, X))) H9.out F2.out HV.out rfl U1.out (by have := N5.out; omega) (Nat.le_refl _) 1 L2 (by omega) (putU_low U1.out (by omega)) (by omega) 1 rfl)).mono ?_); rintro e w10 ⟨rfl, h10⟩; have U2 := Lib.hid (und_U U1.out 1 L2); have H10 := Lib.hid h10; clear h10)
    | (go_at_call 28; (with_reducible refine (aAddAddressArray w10 B (L3 : Int) _ (stepU (p := (putU 1 L2 (putU 0 L1 (zr 6, X)))) H10.out F2.out HV.out rfl U2.out (by have := N5.out; omega) (Nat.le_refl _) 2 L3 (by omega) (putU_low U2.out (by omega)) (by omega) 2 rfl)).mono ?_); rintro e w11 ⟨rfl, h11⟩; have U3 := Lib.hid (und_U U2.out 2 L3); have H11 := Lib.hid h11; clear h11)
    | (go_at_call 30; (with_reducible refine (aAddTreeCount w11 B (m : Int) _ (step8 (p := (putU 2 L3 (putU 1 L2 (putU 0 L1 (zr 6, X))))) H11.out F2.out HV.out rfl U3.out (by have := N5.out; omega) 4 m (by omega) (by omega) 4 rfl)).mono ?_); rintro e w12 ⟨rfl, h12⟩; have U4 := Lib.hid (und_N (k := 8) U3.out (by omega) 4 m); have e8 : ma8 (S2 VT V L4 6 4) m = S2 VT V L4 6 8 := (by unfold ma8; rw [if_neg (by omega)]; rfl); have F8 := Lib.hid (fine1 bZ bZ0 (S2 VT V L4 6 8) (Or.inr (Or.inr rfl))); have MA1 := Lib.hid (show 1 ≤ (S2 VT V L4 6 8).ma from (by show 1 ≤ 8; omega)); have MA4 := Lib.hid (show 4 ≤ (S2 VT V L4 6 8).ma from (by show 4 ≤ 8; omega)); have H12 := Lib.hid (bx_st h12 e8); clear h12 e8)
    | (go_at_call 32; (with_reducible refine (aAddTreeLevel w12 B 0 _ (stepB (p := (putN 8 4 m (putU 2 L3 (putU 1 L2 (putU 0 L1 (zr 6, X)))))) H12.out F8.out HV.out rfl U4.out (by have := N5.out; omega) MA1.out 5 0 (by omega) (by omega) 5 rfl 0 rfl)).mono ?_); rintro e w13 ⟨rfl, h13⟩; have U5 := Lib.hid (und_N (k := 1) U4.out (by omega) 5 0); have H13 := Lib.hid h13; clear h13; have LAST := Lib.hid (show ((putN 1 5 0 (putN 8 4 m (putU 2 L3 (putU 1 L2 (putU 0 L1 (zr 6, X))))))).1.getD 4 0 ≠ 0 from (by rw [putN_ne (by omega), putN_at (by omega) (by simp only [putU_len, zr_length]; omega), ysN_length]; omega)); have ZZ := Lib.hid (show ∀ i, 5 ≤ i → i < 6 → ((putN 1 5 0 (putN 8 4 m (putU 2 L3 (putU 1 L2 (putU 0 L1 (zr 6, X))))))).1.getD i 0 = 0 from (fun i h1 h2 => by obtain rfl : i = 5 := (by omega); rw [show putN 1 5 0 _ = _ from if_pos rfl, putN_ne (by omega), putU_ne (by omega), putU_ne (by omega), putU_ne (by omega)]; exact zr_getD 6 5)); obtain ⟨QQ, hQQ⟩ : ∃ QQ, QQ = ((putN 1 5 0 (putN 8 4 m (putU 2 L3 (putU 1 L2 (putU 0 L1 (zr 6, X))))))).2.length + padOf 4 ((putN 1 5 0 (putN 8 4 m (putU 2 L3 (putU 1 L2 (putU 0 L1 (zr 6, X))))))).2.length + 4 := ⟨_, rfl⟩; have HQQ := Lib.hid hQQ; clear hQQ)
    | (go_at_call 34; (with_reducible refine (aEnd w13 B (QQ : Int) _ (stepEnd (p := (putN 1 5 0 (putN 8 4 m (putU 2 L3 (putU 1 L2 (putU 0 L1 (zr 6, X))))))) (t := 5) (oe := L4) H13.out F8.out rfl (fun q hq => by simp at hq) (HV.out (VT, UO (zr 16)) (by simp)) rfl rfl (zr_length 16) rfl U5.out (by omega) (by omega) (by omega) LAST.out ZZ.out (by have := N5.out; omega) (by omega) MA4.out QQ HQQ.out)).mono ?_); rintro e w14 ⟨rfl, h14⟩; have H14 := Lib.hid (bx_st (s' := S3 VT V L4 6 8) h14 rfl); clear h14; have HP := Lib.hid (show Bx W0 (w14.alloc (.cells #[.int .u8 65, .int .u8 68, .int .u8 82, .int .u8 77] 5 (4, 5))) B Z 0 ((w14.heap.size, .cells (bs fidAdr).toArray 5 (4, 5)) :: []) _ _ from H14.out.push _); have F9 := Lib.hid (fine1 bZ bZ0 (S3 VT V L4 6 8) (Or.inr (Or.inr rfl))); have TOP := Lib.hid (show ((putN 1 5 0 (putN 8 4 m (putU 2 L3 (putU 1 L2 (putU 0 L1 (zr 6, X))))))).2.length + 90 < Z * 2 from (by have := N5.out; have := U5.out.top; omega)))
    | (go_at_call 33; (with_reducible refine (stepFin (p := (putN 1 5 0 (putN 8 4 m (putU 2 L3 (putU 1 L2 (putU 0 L1 (zr 6, X))))))) (oe := L4) (t := 5) HP.out F9.out rfl 8 rfl (Or.inr rfl) (List.mem_cons_self ..) rfl (by simp [fidAdr]) TOP.out (by omega) HQQ.out).mono ?_); rintro e w15 ⟨rfl, h15⟩; obtain ⟨LL, hLL⟩ : ∃ LL, LL = (msgAdr fs gs [] m 0).length := ⟨_, rfl⟩; have hmsg : (msgAdr fs gs [] m 0) = finO 8 QQ fidAdr (endO ((putN 1 5 0 (putN 8 4 m (putU 2 L3 (putU 1 L2 (putU 0 L1 (zr 6, X))))))).1 ((putN 1 5 0 (putN 8 4 m (putU 2 L3 (putU 1 L2 (putU 0 L1 (zr 6, X))))))).2 L4 5) := (by rw [msgAdr, if_pos rfl, HQQ.out, HL4.out, HX.out, HL1.out, HL2.out, HL3.out]; rfl); rw [← hmsg] at h15; have hpos : 0 < LL := (by rw [hLL]; unfold msgAdr; rw [if_pos rfl]; exact msgOA_length _ _ _ _); have HLL := Lib.hid hLL; have H15 := Lib.hid h15; clear h15 hLL hmsg)
    | (go_at_call 35; (with_reducible refine (finBytes H15.out rfl HLL.out hpos).mono ?_); rintro e w16 ⟨g, o, cc, rfl, h16, hg, hbel⟩; have H16 := Lib.hid h16; have HG9 := Lib.hid hg; have HB9 := Lib.hid hbel; clear h16 hg hbel))
  go_ret
  exact ⟨g, o, LL, cc, rfl, H16.out, Nat.le_trans BW.out.size HG9.out, BW.out.trans (HB9.out.mono BW.out.size)⟩

set_option maxRecDepth 100000 in
set_option maxHeartbeats 4000000 in
theorem serAI (w : World) (a b d : Option Addr) (m c c' ck kn vn lv : Nat) (fs gs : List Fld) (ls : List Nat) (h : Flds w a m c fs) (h' : Flds w b m c' gs) (hm : m ≤ 200) (hm0 : 0 < m) (hkn : kn = total fs) (hvn : vn = total gs) (hkb : kn ≤ 20010) (hvb : vn ≤ 20010) (hv0 : ck ≤ maxLen) (hck : m ≤ ck) (hl : ls.length = m) (hlb : ∀ x ∈ ls, x ≤ 2199023255552) (hnum : Nums64 w d ls) (hlv : 0 < lv) (hlv2 : lv ≤ 255) :
    Calls Tryz.prog 14 #[.agg #[.iface 48 (.int .u8 0)], .slice a m c, .slice b m c', .slice d m ck, .int .i64 (lv : Int)] w fun e w' => ∃ g o L cc, e = .returned (.slice (some ⟨g, o, none⟩) L cc) ∧ RB w' (some ⟨g, o, none⟩) L cc (msgAdr fs gs ls m lv) ∧ w.heap.size ≤ g ∧ Below w.heap.size w w' := by
  obtain ⟨Z, hZ⟩ : ∃ Z, Z = kn + vn + 2 * m + 10 * m + 83 := ⟨_, rfl⟩
  have hc1 := h.le
  have hc2 := h.top
  have hc3 := h'.le
  have hc4 := h'.top
  unfold maxLen at hc2 hc4 hv0
  have KE := Lib.hid fun w1 (hb : Below w.heap.size w w1) => estAdr w1 a b d m c c' m ck kn vn Z fs gs (h.below hb) (h'.below hb) hm (by omega) hkn hvn hkb hvb hZ
  have bZ : Z ≤ 100000 := by omega
  have bZ0 : 0 < Z := by omega
  have HF := Lib.hid fun w1 (hb : Below w.heap.size w w1) => h.below hb
  have HG := Lib.hid fun w1 (hb : Below w.heap.size w w1) => h'.below hb
  have HKN := Lib.hid hkn
  have HVN := Lib.hid hvn
  obtain ⟨m1, hm1⟩ : ∃ m1, m1 = m - 1 := ⟨_, rfl⟩
  have q1 : (m : Int) - 1 = (m1 : Int) := by omega
  have HM1 := Lib.hid hm1
  have bm1 : m1 ≤ 199 := by omega
  have x1 := keysX_le (m := m) h.ok
  have x2 := valsX_le (m := m) h.ok h'.ok
  have x3 := innX_le (ls := ls) (m := m) h.ok h'.ok
  obtain ⟨X, hX⟩ : ∃ X, X = innX fs gs ls m := ⟨_, rfl⟩
  rw [← hX] at x3
  obtain ⟨L1, hL1⟩ : ∃ L1, L1 = (vec (cat fs) []).length := ⟨_, rfl⟩
  obtain ⟨L2, hL2⟩ : ∃ L2, L2 = (keysX fs m).length := ⟨_, rfl⟩
  obtain ⟨L3, hL3⟩ : ∃ L3, L3 = (valsX fs gs m).length := ⟨_, rfl⟩
  obtain ⟨L4, hL4⟩ : ∃ L4, L4 = X.length := ⟨_, rfl⟩
  have z1 : 0 < L1 := by rw [hL1, vec_length]; omega
  have N1 := Lib.hid (show ([] : List Nat).length + 8 + kn < Z * 2 by simp only [List.length_nil]; omega)
  have N2 := Lib.hid (show (vec (cat fs) []).length + 8 + 2 * (m - 1) < Z * 2 by omega)
  have N3 := Lib.hid (show (keysX fs m).length + 8 + vn < Z * 2 by omega)
  have N4 := Lib.hid (show (valsX fs gs m).length + 8 + 10 * m < Z * 2 by omega)
  have N5 := Lib.hid (show L4 + 140 < Z * 2 by omega)
  have z2 : L1 ≤ L2 := by omega
  have z3 : L2 ≤ L3 := by omega
  have z4 : L3 ≤ L4 := by omega
  have bL4 : L4 ≤ 200000 := by omega
  obtain ⟨su, hsu⟩ : ∃ su, su = sumU ls := ⟨_, rfl⟩
  have hsub : su ≤ 2199023255552 * 200 := by
    rw [hsu]
    refine Nat.le_trans (sumU_le hlb) ?_
    rw [hl]; exact Nat.mul_le_mul_left _ hm
  have HSU := Lib.hid hsu
  have HLS := Lib.hid hl
  have HLB := Lib.hid hlb
  have HLB2 := Lib.hid (show ∀ x ∈ ls, x < 18446744073709551616 from fun x hx => by have := hlb x hx; omega)
  have HNUM := Lib.hid fun w1 (hb : Below w.heap.size w w1) => (show Nums64 w1 d ls from fun h0 => by
    obtain ⟨b, o, e, hlt, hcc⟩ := hnum h0
    exact ⟨b, o, e, Nat.lt_of_lt_of_le hlt hb.size, fun i hi => (hb.cell (p := ⟨b, o + i, none⟩) hlt).trans (hcc i hi)⟩)
  have lv0 : (0 : Int) < (lv : Int) := by omega
  have HX := Lib.hid hX
  have hconv : ∀ w : World, (convert 26 26 (.slice (some ⟨w.heap.size, 0, none⟩) 4 4)).run Tryz.prog (w.alloc (.cells #[.int .u8 65, .int .u8 68, .int .u8 82, .int .u8 77] 5)) = .ok (.slice (some ⟨w.heap.size, 0, none⟩) 4 4) (w.alloc (.cells #[.int .u8 65, .int .u8 68, .int .u8 82, .int .u8 77] 5 (4, 5))) := fun w =>
    Lib.run_convert_bytes_const w 26 5 #[.int .u8 65, .int .u8 68, .int .u8 82, .int .u8 77] 4 4 Tryz.underlying26 Tryz.underlying5
  have HL2o := Lib.hid (show L2 = (offv fs m (vec (cat fs) [])).length from hL2)
  have HL3o := Lib.hid (show L3 = (vec (cat gs) (keysX fs m)).length from hL3)
  have HL4o := Lib.hid (show L4 = (vec (encs 0 ls) (valsX fs gs m)).length by rw [hL4, hX]; rfl)
  have HL1 := Lib.hid hL1
  have HL2 := Lib.hid hL2
  have HL3 := Lib.hid hL3
  have HL4 := Lib.hid hL4
  have HZ := Lib.hid hZ
  clear h h' hkn hvn hZ hm1 x1 x2 x3 hX hL1 hL2 hL3 hL4 hsu hl hlb hnum
  go_enter Tryz.func14, Tryz.ntmps14
  go_wp2_with (first
    | (go_at_call 19; (with_reducible refine (KE.out _ ((Below.refl _ _).alloc (Nat.le_refl _) _)).mono ?_); rintro e w0 ⟨rfl, rfl⟩; have BW := Lib.hid (show Below w.heap.size w _ from (Below.refl _ _).alloc (Nat.le_refl _) (.cells #[.iface 48 (.int .u8 0)] 39)))
    | (go_at_call 20; (with_reducible refine (getB _ Z bZ bZ0).mono ?_); rintro e w1 ⟨B, VT, rfl, h1⟩; generalize hW0 : World.alloc w _ = W0 at h1 BW; clear hW0; have F0 := Lib.hid (fine1 bZ bZ0 (St0 VT) (Or.inl rfl)); have F1 := Lib.hid (fine1 bZ bZ0 (S1 VT) (Or.inr (Or.inl rfl))); have F1n := Lib.hid (fine1 bZ bZ0 ({ S1 VT with ne := true } : St) (Or.inr (Or.inl rfl))); have H1 := Lib.hid h1; clear h1)
    | (go_at_call 21; (with_reducible refine (itemsV H1.out F0.out rfl (HF.out _ BW.out) hm HKN.out hkb N1.out L1 HL1.out).mono ?_); rintro e w2 ⟨rfl, h2⟩; have H2 := Lib.hid (bx_st h2 (s' := S1 VT) rfl); clear h2)
    | (go_at_call 22; (with_reducible refine (aStartKeyOffsets w2 B (m1 : Int) _ (startV H2.out F1.out rfl (Nat.le_refl _) hm N2.out _ (by rw [← HM1.out]))).mono ?_); rintro e w3 ⟨⟨v3, rfl⟩, h3⟩; have H3 := Lib.hid h3; clear h3)
    | (go_at_call 23; (with_reducible refine (offsV H3.out F1n.out rfl (Nat.le_refl _) (HF.out _ BW.out) hm hm0 HKN.out hkb N2.out L2 HL2o.out).mono ?_); rintro e w4 ⟨rfl, h4⟩; have h4' : Bx W0 w4 B Z 0 _ (keysX fs m) (S1 VT) := h4; have H4 := Lib.hid h4'; clear h4 h4')
    | (go_at_call 21; (with_reducible refine (itemsV H4.out F1.out rfl (HG.out _ BW.out) hm HVN.out hvb N3.out L3 HL3o.out).mono ?_); rintro e w5 ⟨rfl, h5⟩; have h5' : Bx W0 w5 B Z 0 _ (valsX fs gs m) (S1 VT) := h5; have H5 := Lib.hid h5'; clear h5 h5')
    | (go_at_call 24; (with_reducible refine (countsV H5.out F1.out rfl HLS.out hm HLB2.out (HNUM.out _ BW.out) N4.out L4 HL4o.out).mono ?_); rintro e w7 ⟨rfl, h7⟩; have h7' : Bx W0 w7 B Z 0 _ X (S1 VT) := (by rw [HX.out]; exact h7); have H7 := Lib.hid h7'; clear h7 h7')
    | (go_at_call 25; (with_reducible refine (aStart w7 B _ (startO H7.out rfl rfl 6 (by omega) (by omega) L4 HL4.out 6 rfl)).mono ?_); rintro e w8 ⟨rfl, V, hV, h8⟩; have HV := Lib.hid (show ∀ q ∈ [(VT, UO (zr 16))], q.1 ≠ V from hV); have F2 := Lib.hid (fine1 bZ bZ0 (S2 VT V L4 6 4) (Or.inr (Or.inl rfl))); have u0 := und_start 6 X; rw [← HL4.out] at u0; have U0 := Lib.hid u0; have H8 := Lib.hid (bx_st (s' := S2 VT V L4 6 4) h8 rfl); clear h8 hV u0)
    | (go_at_call 26; (with_reducible refine (aAddKeyItems w8 B (L1 : Int) _ (stepU (p := (zr 6, X)) H8.out F2.out HV.out rfl U0.out (by have := N5.out; omega) (Nat.le_refl _) 0 L1 (by omega) (putU_low U0.out (by omega)) (by omega) 0 rfl)).mono ?_); rintro e w9 ⟨rfl, h9⟩; have U1 := Lib.hid (und_U U0.out 0 L1); have H9 := Lib.hid h9; clear h9)
    | (go_at_call 27; (with_reducible refine (aAddKeyOffsets w9 B (L2 : Int) _ (stepU (p := (putU 0 L1 (zr 6, X))) H9.out F2.out HV.out rfl U1.out (by have := N5.out; omega) (Nat.le_refl _) 1 L2 (by omega) (putU_low U1.out (by omega)) (by omega) 1 rfl)).mono ?_); rintro e w10 ⟨rfl, h10⟩; have U2 := Lib.hid (und_U U1.out 1 L2); have H10 := Lib.hid h10; clear h10)
    | (go_at_call 28; (with_reducible refine (aAddAddressArray w10 B (L3 : Int) _ (stepU (p := (putU 1 L2 (putU 0 L1 (zr 6, X)))) H10.out F2.out HV.out rfl U2.out (by have := N5.out; omega) (Nat.le_refl _) 2 L3 (by omega) (putU_low U2.out (by omega)) (by omega) 2 rfl)).mono ?_); rintro e w11 ⟨rfl, h11⟩; have U3 := Lib.hid (und_U U2.out 2 L3); have H11 := Lib.hid h11; clear h11)
    | (go_at_call 29; (with_reducible refine (aAddSubtreeCounts w11 B (L4 : Int) _ (stepU (p := (putU 2 L3 (putU 1 L2 (putU 0 L1 (zr 6, X))))) H11.out F2.out HV.out rfl U3.out (by have := N5.out; omega) (Nat.le_refl _) 3 L4 (by omega) (putU_low U3.out (by omega)) (by omega) 3 rfl)).mono ?_); rintro e w12 ⟨rfl, h12⟩; have U4 := Lib.hid (und_U U3.out 3 L4); have H12 := Lib.hid h12; clear h12)
    | (go_at_call 31; (with_reducible refine (sumSubtrees w12 d m ck ls HLS.out (by omega) HLB.out (HNUM.out _ (BW.out.trans (H12.out.bel.mono BW.out.size)))).mono ?_); rintro e w' ⟨rfl, rfl⟩; rw [← HSU.out])
    | (go_at_call 30; (with_reducible refine (aAddTreeCount w12 B (su : Int) _ (step8 (p := (putU 3 L4 (putU 2 L3 (putU 1 L2 (putU 0 L1 (zr 6, X)))))) H12.out F2.out HV.out rfl U4.out (by have := N5.out; omega) 4 su (by omega) (by omega) 4 rfl)).mono ?_); rintro e w13 ⟨rfl, h13⟩; have U5 := Lib.hid (und_N (k := 8) U4.out (by omega) 4 su); obtain ⟨ma, hma⟩ : ∃ ma, ma = (if su = 0 then 4 else 8) := ⟨_, rfl⟩; have e8 : ma8 (S2 VT V L4 6 4) su = S2 VT V L4 6 ma := (by unfold ma8; rw [hma]; split <;> rfl); have hma2 : ma = 4 ∨ ma = 8 := (by rw [hma]; split <;> simp); have hma4 : 4 ≤ ma := (by omega); have HMA := Lib.hid hma; have HMA2 := Lib.hid hma2; have F8 := Lib.hid (fine1 bZ bZ0 (S2 VT V L4 6 ma) (Or.inr hma2)); have MA1 := Lib.hid (show 1 ≤ (S2 VT V L4 6 ma).ma from (by show 1 ≤ ma; omega)); have MA4 := Lib.hid (show 4 ≤ (S2 VT V L4 6 ma).ma from (by show 4 ≤ ma; omega)); have H13 := Lib.hid (bx_st h13 e8); clear h13 e8 hma hma2)
    | (go_at_call 32; (with_reducible refine (aAddTreeLevel w13 B (lv : Int) _ (stepB (p := (putN 8 4 su (putU 3 L4 (putU 2 L3 (putU 1 L2 (putU 0 L1 (zr 6, X))))))) H13.out F8.out HV.out rfl U5.out (by have := N5.out; omega) MA1.out 5 lv (by omega) (by omega) 5 rfl (lv : Int) rfl)).mono ?_); rintro e w14 ⟨rfl, h14⟩; have U6 := Lib.hid (und_N (k := 1) U5.out (by omega) 5 lv); have H14 := Lib.hid h14; clear h14; have LAST := Lib.hid (show ((putN 1 5 lv (putN 8 4 su (putU 3 L4 (putU 2 L3 (putU 1 L2 (putU 0 L1 (zr 6, X)))))))).1.getD 5 0 ≠ 0 from (by rw [putN_at (by omega) (by simp only [putN_len, putU_len, zr_length]; omega), ysN_length]; omega)); have ZZ := Lib.hid (show ∀ i, 6 ≤ i → i < 6 → ((putN 1 5 lv (putN 8 4 su (putU 3 L4 (putU 2 L3 (putU 1 L2 (putU 0 L1 (zr 6, X)))))))).1.getD i 0 = 0 from (fun i h1 h2 => by omega)); obtain ⟨QQ, hQQ⟩ : ∃ QQ, QQ = ((putN 1 5 lv (putN 8 4 su (putU 3 L4 (putU 2 L3 (putU 1 L2 (putU 0 L1 (zr 6, X)))))))).2.length + padOf 4 ((putN 1 5 lv (putN 8 4 su (putU 3 L4 (putU 2 L3 (putU 1 L2 (putU 0 L1 (zr 6, X)))))))).2.length + 4 := ⟨_, rfl⟩; have HQQ := Lib.hid hQQ; clear hQQ)
    | (go_at_call 34; (with_reducible refine (aEnd w14 B (QQ : Int) _ (stepEnd (p := (putN 1 5 lv (putN 8 4 su (putU 3 L4 (putU 2 L3 (putU 1 L2 (putU 0 L1 (zr 6, X)))))))) (t := 6) (oe := L4) H14.out F8.out rfl (fun q hq => by simp at hq) (HV.out (VT, UO (zr 16)) (by simp)) rfl rfl (zr_length 16) rfl U6.out (by omega) (by omega) (by omega) LAST.out ZZ.out (by have := N5.out; omega) (by omega) MA4.out QQ HQQ.out)).mono ?_); rintro e w15 ⟨rfl, h15⟩; have H15 := Lib.hid (bx_st (s' := S3 VT V L4 6 ma) h15 rfl); clear h15; have HP := Lib.hid (show Bx W0 (w15.alloc (.cells #[.int .u8 65, .int .u8 68, .int .u8 82, .int .u8 77] 5 (4, 5))) B Z 0 ((w15.heap.size, .cells (bs fidAdr).toArray 5 (4, 5)) :: []) _ _ from H15.out.push _); have F9 := Lib.hid (fine1 bZ bZ0 (S3 VT V L4 6 ma) (Or.inr HMA2.out)); have TOP := Lib.hid (show ((putN 1 5 lv (putN 8 4 su (putU 3 L4 (putU 2 L3 (putU 1 L2 (putU 0 L1 (zr 6, X)))))))).2.length + 90 < Z * 2 from (by have := N5.out; have := U6.out.top; omega)))
    | (go_at_call 33; (with_reducible refine (stepFin (p := (putN 1 5 lv (putN 8 4 su (putU 3 L4 (putU 2 L3 (putU 1 L2 (putU 0 L1 (zr 6, X)))))))) (oe := L4) (t := 6) HP.out F9.out rfl ma rfl HMA2.out (List.mem_cons_self ..) rfl (by simp [fidAdr]) TOP.out (by omega) HQQ.out).mono ?_); rintro e w16 ⟨rfl, h16⟩; obtain ⟨LL, hLL⟩ : ∃ LL, LL = (msgAdr fs gs ls m lv).length := ⟨_, rfl⟩; have hmsg : (msgAdr fs gs ls m lv) = finO ma QQ fidAdr (endO ((putN 1 5 lv (putN 8 4 su (putU 3 L4 (putU 2 L3 (putU 1 L2 (putU 0 L1 (zr 6, X)))))))).1 ((putN 1 5 lv (putN 8 4 su (putU 3 L4 (putU 2 L3 (putU 1 L2 (putU 0 L1 (zr 6, X)))))))).2 L4 6) := (by rw [msgAdr, if_neg (by omega), ← HSU.out, ← HMA.out, HQQ.out, HL4.out, HX.out, HL1.out, HL2.out, HL3.out]; rfl); rw [← hmsg] at h16; have hpos : 0 < LL := (by rw [hLL]; unfold msgAdr; rw [if_neg (by omega)]; exact msgOA_length _ _ _ _); have HLL := Lib.hid hLL; have H16 := Lib.hid h16; clear h16 hLL hmsg)
    | (go_at_call 35; (with_reducible refine (finBytes H16.out rfl HLL.out hpos).mono ?_); rintro e w17 ⟨g, o, cc, rfl, h17, hg, hbel⟩; have H17 := Lib.hid h17; have HG9 := Lib.hid hg; have HB9 := Lib.hid hbel; clear h17 hg hbel))
  go_ret
  exact ⟨g, o, LL, cc, rfl, H17.out, Nat.le_trans BW.out.size HG9.out, BW.out.trans (HB9.out.mono BW.out.size)⟩
end Go.Proofs.YtegohkgmamnkdaaGreat.Msg
