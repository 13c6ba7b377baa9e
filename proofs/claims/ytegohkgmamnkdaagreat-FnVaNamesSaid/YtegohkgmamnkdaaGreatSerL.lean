/- The message of a leaf of a map, walked. Condition: at most 200 items, 20000 bytes. -/
import Derived.Test.YtegohkgmamnkdaaGreatSer
import Derived.Lib.SlBytesConst
set_option linter.unusedVariables false
namespace Go.Proofs.YtegohkgmamnkdaaGreat.Msg
open Go.ChangeShapes Go.WideShapes Go.ChangeAt Go.RowKit
open Go.Proofs.YtegohkgmamnkdaaGreat.Dig Go.Proofs.YtegohkgmamnkdaaGreat.Mem Go.Proofs.YtegohkgmamnkdaaGreat.Rb
open Go.Proofs.YtegohkgmamnkdaaGreat.Cnt (encs enc Nums64)

theorem msgO_length (ma t : Nat) (x : List Nat) (o : List Nat × List Nat) : 0 < (msgO ma t x o).length := by
  simp only [msgO, finO, List.length_append, le_length]; omega
/-- The states of a builder. -/
def S1 (VT : Nat) : St := ⟨4, .slice none 0 0, 0, .slice (some ⟨VT, 0, none⟩) 0 16, false, false, .map none⟩
def S2 (VT V L n ma : Nat) : St := ⟨ma, .slice (some ⟨V, 0, none⟩) n n, L, .slice (some ⟨VT, 0, none⟩) 0 16, true, false, .map none⟩
def S3 (VT V L n ma : Nat) : St := ⟨ma, .slice (some ⟨V, 0, none⟩) 0 n, L, .slice (some ⟨VT, 0, none⟩) 1 16, false, false, .map none⟩
theorem fine1 {N0 : Nat} (h1 : N0 ≤ 100000) (h2 : 0 < N0) (s : St) (h : s.ma = 1 ∨ s.ma = 4 ∨ s.ma = 8) : Fine N0 s := ⟨h1, h2, by omega⟩
theorem getB (w : World) (n : Nat) (hn : n ≤ 100000) (h0 : 0 < n) :
    Calls Tryz.prog 20 #[.iface 48 (.int .u8 0), .int .i64 (n : Int)] w fun e w' => ∃ B VT, e = .returned (.pointer (some ⟨B, 0, none⟩)) ∧ Bx w w' B n 0 [(VT, UO (zr 16))] [] (St0 VT) :=
  (getBuilder w n hn h0).mono fun e w' ⟨he, hb⟩ => ⟨_, _, he, hb⟩
theorem startO {w0 w : World} {B N0 r : Nat} {K : List (Nat × Obj)} {xs : List Nat} {s : St} (h : Bx w0 w B N0 r K xs s) (hs : s.ne = false) (hvt : s.vt = .slice none 0 0) (n : Nat) (hn : n ≤ 20) (hn0 : 0 < n) (L : Nat) (hL : L = xs.length) (Ni : Int) (hNi : Ni = (n : Int)) :
    Calls Tryz.prog 74 #[.pointer (some ⟨B, 0, none⟩), .int .i64 Ni] w fun e w' => e = .returned (.tuple #[]) ∧ ∃ V, (∀ q ∈ K, q.1 ≠ V) ∧ Bx w0 w' B N0 r ((V, UO (zr n)) :: K) xs { s with ne := true, vt := .slice (some ⟨V, 0, none⟩) n n, oe := L } :=
  (startObject w0 w B N0 r n L K xs s h hs hvt hn hn0 hL Ni hNi).mono fun e w' ⟨he, hb⟩ => ⟨he, w.heap.size, fun q hq => by have := lt_of_obj (h.keep q hq).1; omega, hb⟩
theorem endO_length (vs xs : List Nat) (oe t : Nat) : (endO vs xs oe t).length = 2 * t + 8 + padOf 4 xs.length + xs.length := by
  simp only [endO, List.length_append, le_length, vtb_length, zr_length]; omega
/-- The message's end, in these words. -/
theorem stepFin {w0 w : World} {B N0 r F : Nat} {K : List (Nat × Obj)} {p : List Nat × List Nat} {s : St} {oe t q : Nat} {fid : List Nat} {fr : Nat × Nat} (h : Bx w0 w B N0 r K (endO p.1 p.2 oe t) s) (hf : Fine N0 s) (hs : s.ne = false) (ma : Nat) (hm : s.ma = ma) (hma : ma = 4 ∨ ma = 8) (hF : (F, Obj.cells (bs fid).toArray 5 fr) ∈ K) (hfl : fid.length = 4) (hfb : ∀ x ∈ fid, x < 256)
    (hfit : p.2.length + 90 < N0 * 2) (ht : t ≤ 11) (hq : q = p.2.length + padOf 4 p.2.length + 4) :
    Calls Tryz.prog 33 #[.pointer (some ⟨B, 0, none⟩), .int .u32 (q : Int), .slice (some ⟨F, 0, none⟩) 4 4] w fun e w' => e = .returned (.tuple #[]) ∧ Bx w0 w' B N0 0 K (finO ma q fid (endO p.1 p.2 oe t)) { s with fi := true } := by
  have h4 := padOf_lt 4 p.2.length (by omega)
  have hl := endO_length p.1 p.2 oe t
  exact finishId w0 w B N0 r (padOf ma ((endO p.1 p.2 oe t).length + 8)) _ q F K fid _ s h hf hs (by rw [hm]; exact hma) fr hF hfl hfb (by rw [hm]) (by omega) (by omega) rfl
theorem finBytes {w0 w : World} {B N0 r L : Nat} {K : List (Nat × Obj)} {xs : List Nat} {s : St} (h : Bx w0 w B N0 r K xs s) (hs : s.fi = true) (hL : L = xs.length) (h0 : 0 < L) :
    Calls Tryz.prog 35 #[.pointer (some ⟨B, 0, none⟩)] w fun e w' => ∃ g o c, e = .returned (.slice (some ⟨g, o, none⟩) L c) ∧ RB w' (some ⟨g, o, none⟩) L c xs ∧ w0.heap.size ≤ g ∧ Below w0.heap.size w0 w' := finishedBytes w0 w B N0 r L K xs s h hs hL h0
theorem putN_ne {k i v j : Nat} {p : List Nat × List Nat} (h : j ≠ i) : (putN k i v p).1.getD j 0 = p.1.getD j 0 := by
  unfold putN
  split
  · rfl
  · simp [List.getD_eq_getElem?_getD, Ne.symm h]
theorem putU_ne {i off j : Nat} {p : List Nat × List Nat} (h : j ≠ i) : (putU i off p).1.getD j 0 = p.1.getD j 0 := by
  unfold putU
  simp [List.getD_eq_getElem?_getD, Ne.symm h]
theorem putN_at {k i v : Nat} {p : List Nat × List Nat} (hv : v ≠ 0) (h : i < p.1.length) : (putN k i v p).1.getD i 0 = (ysN k v p.2).length := by
  unfold putN
  rw [if_neg hv]
  simp [List.getD_eq_getElem?_getD, h]
theorem putU_at {i off : Nat} {p : List Nat × List Nat} (h : i < p.1.length) : (putU i off p).1.getD i 0 = (ysU off p.2).length := by
  unfold putU
  simp [List.getD_eq_getElem?_getD, h]
theorem putN_len {k i v : Nat} {p : List Nat × List Nat} : (putN k i v p).1.length = p.1.length := by unfold putN; split <;> simp
theorem putU_len {i off : Nat} {p : List Nat × List Nat} : (putU i off p).1.length = p.1.length := by unfold putU; simp
theorem zr_getD (n i : Nat) : (zr n).getD i 0 = 0 := by simp only [zr, List.getD_eq_getElem?_getD, List.getElem?_replicate]; split <;> rfl
theorem putU_low {n L M : Nat} {p : List Nat × List Nat} (u : Und n p L M) {off : Nat} (h : off ≤ L) : off ≤ p.2.length := Nat.le_trans h u.low

set_option maxRecDepth 100000 in
set_option maxHeartbeats 4000000 in
theorem serLeaf (w : World) (a b d : Option Addr) (m c c' ck kn vn : Nat) (fs gs : List Fld) (h : Flds w a m c fs) (h' : Flds w b m c' gs) (hm : m ≤ 200) (hm0 : 0 < m) (hkn : kn = total fs) (hvn : vn = total gs) (hkb : kn ≤ 20010) (hvb : vn ≤ 20010) (hv0 : ck ≤ maxLen) :
    Calls Tryz.prog 18 #[.agg #[.iface 48 (.int .u8 0)], .slice a m c, .slice b m c', .slice d 0 ck, .int .i64 0] w fun e w' => ∃ g o L cc, e = .returned (.slice (some ⟨g, o, none⟩) L cc) ∧ RB w' (some ⟨g, o, none⟩) L cc (msgMap fs gs [] m 0) ∧ w.heap.size ≤ g ∧ Below w.heap.size w w' := by
  obtain ⟨Z, hZ⟩ : ∃ Z, Z = kn + vn + 10 * 0 + 4 * m + 183 := ⟨_, rfl⟩
  have hc1 := h.le
  have hc2 := h.top
  have hc3 := h'.le
  have hc4 := h'.top
  unfold maxLen at hc2 hc4 hv0
  have KE := Lib.hid fun w1 (hb : Below w.heap.size w w1) => estMap w1 a b d m c c' 0 ck kn vn Z fs gs (h.below hb) (h'.below hb) hm (by omega) hkn hvn hkb hvb hZ
  have bZ : Z ≤ 100000 := by omega
  have bZ0 : 0 < Z := by omega
  have HF := Lib.hid fun w1 (hb : Below w.heap.size w w1) => h.below hb
  have HG := Lib.hid fun w1 (hb : Below w.heap.size w w1) => h'.below hb
  have HKN := Lib.hid hkn
  have HVN := Lib.hid hvn
  obtain ⟨m1, hm1⟩ : ∃ m1, m1 = m - 1 := ⟨_, rfl⟩
  have q1 : (m : Int) - 1 = (m1 : Int) := by omega
  have HM1 := Lib.hid hm1
  have bm1 : m1 ≤ 199 := by omega
  have x1 := keysX_le (m := m) h.ok
  have x2 := valsX_le (m := m) h.ok h'.ok
  have x3 := leafX_le (m := m) h.ok h'.ok
  obtain ⟨X, hX⟩ : ∃ X, X = leafX fs gs m := ⟨_, rfl⟩
  rw [← hX] at x3
  obtain ⟨L1, hL1⟩ : ∃ L1, L1 = (vec (cat fs) []).length := ⟨_, rfl⟩
  obtain ⟨L2, hL2⟩ : ∃ L2, L2 = (keysX fs m).length := ⟨_, rfl⟩
  obtain ⟨L3, hL3⟩ : ∃ L3, L3 = (valsX fs gs m).length := ⟨_, rfl⟩
  obtain ⟨L4, hL4⟩ : ∃ L4, L4 = X.length := ⟨_, rfl⟩
  have z1 : 0 < L1 := by rw [hL1, vec_length]; omega
  have N1 := Lib.hid (show ([] : List Nat).length + 8 + kn < Z * 2 by simp only [List.length_nil]; omega)
  have N2 := Lib.hid (show (vec (cat fs) []).length + 8 + 2 * (m - 1) < Z * 2 by omega)
  have N3 := Lib.hid (show (keysX fs m).length + 8 + vn < Z * 2 by omega)
  have N4 := Lib.hid (show (valsX fs gs m).length + 8 + 2 * (m - 1) < Z * 2 by omega)
  have N5 := Lib.hid (show L4 + 140 < Z * 2 by omega)
  have z2 : L1 ≤ L2 := by omega
  have z3 : L2 ≤ L3 := by omega
  have z4 : L3 ≤ L4 := by omega
  have bL4 : L4 ≤ 200000 := by omega
  have HX := Lib.hid hX
  have hconv : ∀ w : World, (convert 26 26 (.slice (some ⟨w.heap.size, 0, none⟩) 4 4)).run Tryz.prog (w.alloc (.cells #[.int .u8 84, .int .u8 85, .int .u8 80, .int .u8 77] 5)) = .ok (.slice (some ⟨w.heap.size, 0, none⟩) 4 4) (w.alloc (.cells #[.int .u8 84, .int .u8 85, .int .u8 80, .int .u8 77] 5 (4, 5))) := fun w =>
    Lib.run_convert_bytes_const w 26 5 #[.int .u8 84, .int .u8 85, .int .u8 80, .int .u8 77] 4 4 Tryz.underlying26 Tryz.underlying5
  have HL2o := Lib.hid (show L2 = (offv fs m (vec (cat fs) [])).length from hL2)
  have HL3o := Lib.hid (show L3 = (vec (cat gs) (keysX fs m)).length from hL3)
  have HL4o := Lib.hid (show L4 = (offv gs m (valsX fs gs m)).length by rw [hL4, hX]; rfl)
  have HL1 := Lib.hid hL1
  have HL2 := Lib.hid hL2
  have HL3 := Lib.hid hL3
  have HL4 := Lib.hid hL4
  have HZ := Lib.hid hZ
  clear h h' hkn hvn hZ hm1 x1 x2 x3 hX hL1 hL2 hL3 hL4
  go_enter Tryz.func18, Tryz.ntmps18
  go_wp2_with (first
    | (go_at_call 48; (with_reducible refine (KE.out _ ((Below.refl _ _).alloc (Nat.le_refl _) _)).mono ?_); rintro e w0 ⟨rfl, rfl⟩; have BW := Lib.hid (show Below w.heap.size w _ from (Below.refl _ _).alloc (Nat.le_refl _) (.cells #[.iface 48 (.int .u8 0)] 46)))
    | (go_at_call 20; (with_reducible refine (getB _ Z bZ bZ0).mono ?_); rintro e w1 ⟨B, VT, rfl, h1⟩; generalize hW0 : World.alloc w _ = W0 at h1 BW; clear hW0; have F0 := Lib.hid (fine1 bZ bZ0 (St0 VT) (Or.inl rfl)); have F1 := Lib.hid (fine1 bZ bZ0 (S1 VT) (Or.inr (Or.inl rfl))); have F1n := Lib.hid (fine1 bZ bZ0 ({ S1 VT with ne := true } : St) (Or.inr (Or.inl rfl))); have H1 := Lib.hid h1; clear h1)
    | (go_at_call 21; (with_reducible refine (itemsV H1.out F0.out rfl (HF.out _ BW.out) hm HKN.out hkb N1.out L1 HL1.out).mono ?_); rintro e w2 ⟨rfl, h2⟩; have H2 := Lib.hid (bx_st h2 (s' := S1 VT) rfl); clear h2)
    | (go_at_call 49; (with_reducible refine (nStartKeyOffsets w2 B (m1 : Int) _ (startV H2.out F1.out rfl (Nat.le_refl _) hm N2.out _ (by rw [← HM1.out]))).mono ?_); rintro e w3 ⟨⟨v3, rfl⟩, h3⟩; have H3 := Lib.hid h3; clear h3)
    | (go_at_call 23; (with_reducible refine (offsV H3.out F1n.out rfl (Nat.le_refl _) (HF.out _ BW.out) hm hm0 HKN.out hkb N2.out L2 HL2o.out).mono ?_); rintro e w4 ⟨rfl, h4⟩; have h4' : Bx W0 w4 B Z 0 _ (keysX fs m) (S1 VT) := h4; have H4 := Lib.hid h4'; clear h4 h4')
    | (go_at_call 21; (with_reducible refine (itemsV H4.out F1.out rfl (HG.out _ BW.out) hm HVN.out hvb N3.out L3 HL3o.out).mono ?_); rintro e w5 ⟨rfl, h5⟩; have h5' : Bx W0 w5 B Z 0 _ (valsX fs gs m) (S1 VT) := h5; have H5 := Lib.hid h5'; clear h5 h5')
    | (go_at_call 50; (with_reducible refine (nStartValueOffsets w5 B (m1 : Int) _ (startV H5.out F1.out rfl (Nat.le_refl _) hm N4.out _ (by rw [← HM1.out]))).mono ?_); rintro e w6 ⟨⟨v6, rfl⟩, h6⟩; have H6 := Lib.hid h6; clear h6)
    | (go_at_call 23; (with_reducible refine (offsV H6.out F1n.out rfl (Nat.le_refl _) (HG.out _ BW.out) hm hm0 HVN.out hvb N4.out L4 HL4o.out).mono ?_); rintro e w7 ⟨rfl, h7⟩; have h7' : Bx W0 w7 B Z 0 _ X (S1 VT) := (by rw [HX.out]; exact h7); have H7 := Lib.hid h7'; clear h7 h7')
    | (go_at_call 51; (with_reducible refine (nStart w7 B _ (startO H7.out rfl rfl 11 (by omega) (by omega) L4 HL4.out 11 rfl)).mono ?_); rintro e w8 ⟨rfl, V, hV, h8⟩; have HV := Lib.hid (show ∀ q ∈ [(VT, UO (zr 16))], q.1 ≠ V from hV); have F2 := Lib.hid (fine1 bZ bZ0 (S2 VT V L4 11 4) (Or.inr (Or.inl rfl))); have u0 := und_start 11 X; rw [← HL4.out] at u0; have U0 := Lib.hid u0; have H8 := Lib.hid (bx_st (s' := S2 VT V L4 11 4) h8 rfl); clear h8 hV u0)
    | (go_at_call 52; (with_reducible refine (nAddKeyItems w8 B (L1 : Int) _ (stepU (p := (zr 11, X)) H8.out F2.out HV.out rfl U0.out (by have := N5.out; omega) (Nat.le_refl _) 0 L1 (by omega) (putU_low U0.out (by omega)) (by omega) 0 rfl)).mono ?_); rintro e w9 ⟨rfl, h9⟩; have U1 := Lib.hid (und_U U0.out 0 L1); have H9 := Lib.hid h9; clear h9)
    | (go_at_call 53; (with_reducible refine (nAddKeyOffsets w9 B (L2 : Int) _ (stepU (p := (putU 0 L1 (zr 11, X))) H9.out F2.out HV.out rfl U1.out (by have := N5.out; omega) (Nat.le_refl _) 1 L2 (by omega) (putU_low U1.out (by omega)) (by omega) 1 rfl)).mono ?_); rintro e w10 ⟨rfl, h10⟩; have U2 := Lib.hid (und_U U1.out 1 L2); have H10 := Lib.hid h10; clear h10)
    | (go_at_call 54; (with_reducible refine (nAddValueItems w10 B (L3 : Int) _ (stepU (p := (putU 1 L2 (putU 0 L1 (zr 11, X)))) H10.out F2.out HV.out rfl U2.out (by have := N5.out; omega) (Nat.le_refl _) 3 L3 (by omega) (putU_low U2.out (by omega)) (by omega) 3 rfl)).mono ?_); rintro e w11 ⟨rfl, h11⟩; have U3 := Lib.hid (und_U U2.out 3 L3); have H11 := Lib.hid h11; clear h11)
    | (go_at_call 55; (with_reducible refine (nAddValueOffsets w11 B (L4 : Int) _ (stepU (p := (putU 3 L3 (putU 1 L2 (putU 0 L1 (zr 11, X))))) H11.out F2.out HV.out rfl U3.out (by have := N5.out; omega) (Nat.le_refl _) 4 L4 (by omega) (putU_low U3.out (by omega)) (by omega) 4 rfl)).mono ?_); rintro e w12 ⟨rfl, h12⟩; have U4 := Lib.hid (und_U U3.out 4 L4); have H12 := Lib.hid h12; clear h12)
    | (go_at_call 56; (with_reducible refine (nAddTreeCount w12 B (m : Int) _ (step8 (p := (putU 4 L4 (putU 3 L3 (putU 1 L2 (putU 0 L1 (zr 11, X)))))) H12.out F2.out HV.out rfl U4.out (by have := N5.out; omega) 9 m (by omega) (by omega) 9 rfl)).mono ?_); rintro e w13 ⟨rfl, h13⟩; have U5 := Lib.hid (und_N (k := 8) U4.out (by omega) 9 m); have e8 : ma8 (S2 VT V L4 11 4) m = S2 VT V L4 11 8 := (by unfold ma8; rw [if_neg (by omega)]; rfl); have F8 := Lib.hid (fine1 bZ bZ0 (S2 VT V L4 11 8) (Or.inr (Or.inr rfl))); have MA1 := Lib.hid (show 1 ≤ (S2 VT V L4 11 8).ma from (by show 1 ≤ 8; omega)); have MA4 := Lib.hid (show 4 ≤ (S2 VT V L4 11 8).ma from (by show 4 ≤ 8; omega)); have H13 := Lib.hid (bx_st h13 e8); clear h13 e8)
    | (go_at_call 59; (with_reducible refine (nAddKeyType w13 B 1 _ (stepB (p := (putN 8 9 m (putU 4 L4 (putU 3 L3 (putU 1 L2 (putU 0 L1 (zr 11, X))))))) H13.out F8.out HV.out rfl U5.out (by have := N5.out; omega) MA1.out 2 1 (by omega) (by omega) 2 rfl 1 rfl)).mono ?_); rintro e w14 ⟨rfl, h14⟩; have U6 := Lib.hid (und_N (k := 1) U5.out (by omega) 2 1); have H14 := Lib.hid h14; clear h14)
    | (go_at_call 60; (with_reducible refine (nAddValueType w14 B 1 _ (stepB (p := (putN 1 2 1 (putN 8 9 m (putU 4 L4 (putU 3 L3 (putU 1 L2 (putU 0 L1 (zr 11, X)))))))) H14.out F8.out HV.out rfl U6.out (by have := N5.out; omega) MA1.out 5 1 (by omega) (by omega) 5 rfl 1 rfl)).mono ?_); rintro e w15 ⟨rfl, h15⟩; have U7 := Lib.hid (und_N (k := 1) U6.out (by omega) 5 1); have H15 := Lib.hid h15; clear h15)
    | (go_at_call 61; (with_reducible refine (nAddTreeLevel w15 B 0 _ (stepB (p := (putN 1 5 1 (putN 1 2 1 (putN 8 9 m (putU 4 L4 (putU 3 L3 (putU 1 L2 (putU 0 L1 (zr 11, X))))))))) H15.out F8.out HV.out rfl U7.out (by have := N5.out; omega) MA1.out 10 0 (by omega) (by omega) 10 rfl 0 rfl)).mono ?_); rintro e w16 ⟨rfl, h16⟩; have U8 := Lib.hid (und_N (k := 1) U7.out (by omega) 10 0); have H16 := Lib.hid h16; clear h16; have LAST := Lib.hid (show ((putN 1 10 0 (putN 1 5 1 (putN 1 2 1 (putN 8 9 m (putU 4 L4 (putU 3 L3 (putU 1 L2 (putU 0 L1 (zr 11, X)))))))))).1.getD 9 0 ≠ 0 from (by rw [putN_ne (by omega), putN_ne (by omega), putN_ne (by omega), putN_at (by omega) (by simp only [putU_len, zr_length]; omega), ysN_length]; omega)); have ZZ := Lib.hid (show ∀ i, 10 ≤ i → i < 11 → ((putN 1 10 0 (putN 1 5 1 (putN 1 2 1 (putN 8 9 m (putU 4 L4 (putU 3 L3 (putU 1 L2 (putU 0 L1 (zr 11, X)))))))))).1.getD i 0 = 0 from (fun i h1 h2 => by obtain rfl : i = 10 := (by omega); rw [show putN 1 10 0 _ = _ from if_pos rfl, putN_ne (by omega), putN_ne (by omega), putN_ne (by omega), putU_ne (by omega), putU_ne (by omega), putU_ne (by omega), putU_ne (by omega)]; exact zr_getD 11 10)); obtain ⟨QQ, hQQ⟩ : ∃ QQ, QQ = ((putN 1 10 0 (putN 1 5 1 (putN 1 2 1 (putN 8 9 m (putU 4 L4 (putU 3 L3 (putU 1 L2 (putU 0 L1 (zr 11, X)))))))))).2.length + padOf 4 ((putN 1 10 0 (putN 1 5 1 (putN 1 2 1 (putN 8 9 m (putU 4 L4 (putU 3 L3 (putU 1 L2 (putU 0 L1 (zr 11, X)))))))))).2.length + 4 := ⟨_, rfl⟩; have HQQ := Lib.hid hQQ; clear hQQ)
    | (go_at_call 62; (with_reducible refine (nEnd w16 B (QQ : Int) _ (stepEnd (p := (putN 1 10 0 (putN 1 5 1 (putN 1 2 1 (putN 8 9 m (putU 4 L4 (putU 3 L3 (putU 1 L2 (putU 0 L1 (zr 11, X)))))))))) (t := 10) (oe := L4) H16.out F8.out rfl (fun q hq => by simp at hq) (HV.out (VT, UO (zr 16)) (by simp)) rfl rfl (zr_length 16) rfl U8.out (by omega) (by omega) (by omega) LAST.out ZZ.out (by have := N5.out; omega) (by omega) MA4.out QQ HQQ.out)).mono ?_); rintro e w17 ⟨rfl, h17⟩; have H17 := Lib.hid (bx_st (s' := S3 VT V L4 11 8) h17 rfl); clear h17; have HP := Lib.hid (show Bx W0 (w17.alloc (.cells #[.int .u8 84, .int .u8 85, .int .u8 80, .int .u8 77] 5 (4, 5))) B Z 0 ((w17.heap.size, .cells (bs fidMap).toArray 5 (4, 5)) :: []) _ _ from H17.out.push _); have F9 := Lib.hid (fine1 bZ bZ0 (S3 VT V L4 11 8) (Or.inr (Or.inr rfl))); have TOP := Lib.hid (show ((putN 1 10 0 (putN 1 5 1 (putN 1 2 1 (putN 8 9 m (putU 4 L4 (putU 3 L3 (putU 1 L2 (putU 0 L1 (zr 11, X)))))))))).2.length + 90 < Z * 2 from (by have := N5.out; have := U8.out.top; omega)))
    | (go_at_call 33; (with_reducible refine (stepFin (p := (putN 1 10 0 (putN 1 5 1 (putN 1 2 1 (putN 8 9 m (putU 4 L4 (putU 3 L3 (putU 1 L2 (putU 0 L1 (zr 11, X)))))))))) (oe := L4) (t := 10) HP.out F9.out rfl 8 rfl (Or.inr rfl) (List.mem_cons_self ..) rfl (by simp [fidMap]) TOP.out (by omega) HQQ.out).mono ?_); rintro e w18 ⟨rfl, h18⟩; obtain ⟨LL, hLL⟩ : ∃ LL, LL = (msgMap fs gs [] m 0).length := ⟨_, rfl⟩; have hmsg : (msgMap fs gs [] m 0) = finO 8 QQ fidMap (endO ((putN 1 10 0 (putN 1 5 1 (putN 1 2 1 (putN 8 9 m (putU 4 L4 (putU 3 L3 (putU 1 L2 (putU 0 L1 (zr 11, X)))))))))).1 ((putN 1 10 0 (putN 1 5 1 (putN 1 2 1 (putN 8 9 m (putU 4 L4 (putU 3 L3 (putU 1 L2 (putU 0 L1 (zr 11, X)))))))))).2 L4 10) := (by rw [HQQ.out, HL4.out, HX.out, HL1.out, HL2.out, HL3.out]; rfl); rw [← hmsg] at h18; have hpos : 0 < LL := (by rw [hLL]; unfold msgMap; rw [if_pos rfl]; exact msgO_length _ _ _ _); have HLL := Lib.hid hLL; have H18 := Lib.hid h18; clear h18 hLL hmsg)
    | (go_at_call 35; (with_reducible refine (finBytes H18.out rfl HLL.out hpos).mono ?_); rintro e w19 ⟨g, o, cc, rfl, h19, hg, hbel⟩; have H19 := Lib.hid h19; have HG9 := Lib.hid hg; have HB9 := Lib.hid hbel; clear h19 hg hbel))
  go_ret
  exact ⟨g, o, LL, cc, rfl, H19.out, Nat.le_trans BW.out.size HG9.out, BW.out.trans (HB9.out.mono BW.out.size)⟩
end Go.Proofs.YtegohkgmamnkdaaGreat.Msg
