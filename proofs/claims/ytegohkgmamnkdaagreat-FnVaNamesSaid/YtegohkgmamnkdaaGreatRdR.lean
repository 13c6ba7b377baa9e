/- A message of names, taken apart, walked. Condition: the bytes are a message. -/
import Derived.Test.YtegohkgmamnkdaaGreatRdL
import Derived.Test.YtegohkgmamnkdaaGreatToA
set_option linter.unusedVariables false
namespace Go.Proofs.YtegohkgmamnkdaaGreat.Msg
open Go.ChangeShapes Go.WideShapes Go.ChangeAt Go.RowKit
open Go.Proofs.YtegohkgmamnkdaaGreat.Dig Go.Proofs.YtegohkgmamnkdaaGreat.Mem Go.Proofs.YtegohkgmamnkdaaGreat.Rb
open Go.Proofs.YtegohkgmamnkdaaGreat.Cnt (encs enc Nums64 OwnU)

section
variable {w0 w : World} {t : TypeId} {A : Array Value}
theorem r1f (h : Row1 w0 w t A) (i : Nat) : w.frozen? ⟨w0.heap.size, i, none⟩ = false := free_of_row h.a0 i
theorem r1c (h : Row1 w0 w t A) (i : Nat) : w.cell? ⟨w0.heap.size, i, none⟩ = A[i]? := by simp [World.cell?, h.a0]
theorem r1s (h : Row1 w0 w t A) (i : Nat) (v : Value) : Row1 w0 (w.setCell ⟨w0.heap.size, i, none⟩ v) t (A.setIfInBounds i v) :=
  ⟨setCell_heap h.a0, h.bel.setCell (p := ⟨w0.heap.size, i, none⟩) (Nat.le_refl _) v, by have := h.lt; simpa [World.setCell] using this⟩
end

set_option maxRecDepth 100000 in
set_option maxHeartbeats 2000000 in
theorem keysA {w : World} {g o L cc n ck m : Nat} {T id xk yk : List Nat} (h : Mess w g o L cc n T id) (V0 : Vec T 0 ck xk) (l0 : xk.length = ck) (b0 : ck ≤ 60000) (V1 : Vec T 1 (m - 1) yk) (l1 : yk.length = 2 * (m - 1)) (hm : m ≤ 200) :
    Calls Tryz.prog 107 #[.slice (some ⟨g, o, none⟩) L cc] w fun e w' => e = .returned (.agg #[.slice (cutA (some ⟨g, o, none⟩) cc (ind T 0 + 4)) ck (cc - (ind T 0 + 4)), .slice (cutA (some ⟨g, o, none⟩) cc (ind T 1 + 4)) (2 * (m - 1)) (cc - (ind T 1 + 4))]) ∧ Below w.heap.size w w' := by
  have hcct := h.rb.top
  have hLc := h.rb.le
  unfold maxLen at hcct
  have T0 := Lib.hid (row1_start w 68 #[.slice none 0 0, .slice none 0 0])
  have KR := Lib.hid (rootA (h.below T0.out.bel).rb h.top h.pos4)
  have K0 := Lib.hid fun (w1 : World) (t : Nat) (h1 : Tbl w1 t g o L cc T) => aKI h1 h.m V0 l0 (by omega)
  have K1 := Lib.hid fun (w1 : World) (t : Nat) (h1 : Tbl w1 t g o L cc T) => koffA h1 h.m V1 l1 (by omega)
  have hg : g < w.heap.size := RB.lt_ h.rb (by have := h.l8; omega)
  obtain ⟨a0, ha0⟩ := cutA_some ⟨g, o, none⟩ cc (ind T 0 + 4)
  obtain ⟨a1, ha1⟩ := cutA_some ⟨g, o, none⟩ cc (ind T 1 + 4)
  obtain ⟨j0, hj0⟩ : ∃ j, j = cc - (ind T 0 + 4) := ⟨_, rfl⟩
  obtain ⟨j1, hj1⟩ : ∃ j, j = cc - (ind T 1 + 4) := ⟨_, rfl⟩
  obtain ⟨S, hS⟩ : ∃ S, S = 2 * (m - 1) := ⟨_, rfl⟩
  rw [ha0, ← hj0] at K0 ⊢
  rw [ha1, ← hj1, ← hS] at K1 ⊢
  have SZ := Lib.hid szSB
  clear h V0 V1 l0 l1 ha0 ha1 hj0 hj1 hS
  go_enter Tryz.func107, Tryz.ntmps107
  go_wp2_with (first
    | (go_at_call 124; (with_reducible refine KR.out.mono ?_); rintro e w1 ⟨t, rfl, ht, h1, hb1⟩; have ht' : w.heap.size + 1 ≤ t := (by simpa using ht); have T1 := Lib.hid (T0.out.later hb1); have H1 := Lib.hid h1; clear h1 hb1 ht)
    | (go_at_call 140; (with_reducible refine (K0.out _ _ H1.out).mono ?_); rintro e w2 ⟨rfl, hw2⟩; have T2 := Lib.hid (T1.out.later (drew_below hw2)); have H2 := Lib.hid (tbl_of H1.out hw2); clear hw2; have f2 : w2.frozen? ⟨w.heap.size, 0, none⟩ = false := r1f T2.out 0; have c2 : w2.cell? ⟨w.heap.size, 0, none⟩ = some (.slice none 0 0) := r1c T2.out 0; have T3 := Lib.hid (r1s T2.out 0 (.slice (some a0) ck j0)); have H3 := Lib.hid (H2.out.set (b := w.heap.size) (i := 0) (.slice (some a0) ck j0) (by omega) (by omega)))
    | (go_at_call 141; (with_reducible refine (K1.out _ _ H3.out).mono ?_); rintro e w4 ⟨rfl, hb4⟩; have T4 := Lib.hid (T3.out.later hb4); clear hb4; have f4 : w4.frozen? ⟨w.heap.size, 1, none⟩ = false := r1f T4.out 1; have c4 : w4.cell? ⟨w.heap.size, 1, none⟩ = some (.slice none 0 0) := r1c T4.out 1; have T5 := Lib.hid (r1s T4.out 1 (.slice (some a1) S j1))))
  refine bodyPost_ret (results_cell_row rfl _ _ w.heap.size 68 #[.slice (some a0) ck j0, .slice (some a1) S j1] (0, 0) _ rfl T5.out.a0 Tryz.underlying68 rfl SZ.out) rfl ?_
  exact ⟨rfl, T5.out.bel⟩

set_option maxRecDepth 100000 in
set_option maxHeartbeats 2000000 in
theorem valsA {w : World} {g o L cc n cv m : Nat} {T id xv : List Nat} (h : Mess w g o L cc n T id) (V2 : Vec T 2 cv xv) (l2 : xv.length = cv) (hcv : cv = 20 * m) (hm : m ≤ 200) (hm0 : 0 < m) :
    Calls Tryz.prog 108 #[.slice (some ⟨g, o, none⟩) L cc] w fun e w' => ∃ g2 S2, e = .returned (.agg #[.slice (cutA (some ⟨g, o, none⟩) cc (ind T 2 + 4)) cv (cc - (ind T 2 + 4)), .slice (some ⟨g2, 0, none⟩) S2 S2]) ∧ S2 = 2 * m ∧ Blk w' g2 S2 (adr m) ∧ w.heap.size < g2 ∧ Below w.heap.size w w' := by
  have hcct := h.rb.top
  have hLc := h.rb.le
  unfold maxLen at hcct
  have T0 := Lib.hid (row1_start w 68 #[.slice none 0 0, .slice none 0 0])
  have KR := Lib.hid (rootA (h.below T0.out.bel).rb h.top h.pos4)
  have K2 := Lib.hid fun (w1 : World) (t : Nat) (h1 : Tbl w1 t g o L cc T) => aAA h1 h.m V2 l2 (by omega)
  have hg : g < w.heap.size := RB.lt_ h.rb (by have := h.l8; omega)
  obtain ⟨a7, ha7⟩ := cutA_some ⟨g, o, none⟩ cc (ind T 2 + 4)
  obtain ⟨j7, hj7⟩ : ∃ j, j = cc - (ind T 2 + 4) := ⟨_, rfl⟩
  rw [ha7, ← hj7] at K2 ⊢
  have hlen7 : cv ≤ j7 := by have := V2.fit; have := h.rb.len; omega
  have bj7 : j7 ≤ 9223372036854775807 := by omega
  have KA := Lib.hid fun w1 => addrOffs w1 (some a7) cv j7 m hcv hm hm0 hlen7 bj7
  have bcv : cv ≤ 4000 := by omega
  have SZ := Lib.hid szSB
  clear h V2 l2 ha7 hj7 hcv
  go_enter Tryz.func108, Tryz.ntmps108
  go_wp2_with (first
    | (go_at_call 124; (with_reducible refine KR.out.mono ?_); rintro e w1 ⟨t, rfl, ht, h1, hb1⟩; have ht' : w.heap.size + 1 ≤ t := (by simpa using ht); have T1 := Lib.hid (T0.out.later hb1); have H1 := Lib.hid h1; clear h1 hb1 ht)
    | (go_at_call 125; (with_reducible refine (K2.out _ _ H1.out).mono ?_); rintro e w2 ⟨rfl, hw2⟩; have T2 := Lib.hid (T1.out.later (drew_below hw2)); clear hw2; have f2 : w2.frozen? ⟨w.heap.size, 0, none⟩ = false := r1f T2.out 0; have c2 : w2.cell? ⟨w.heap.size, 0, none⟩ = some (.slice none 0 0) := r1c T2.out 0; have T3 := Lib.hid (r1s T2.out 0 (.slice (some a7) cv j7)); have c3 : (w2.setCell ⟨w.heap.size, 0, none⟩ (.slice (some a7) cv j7)).cell? ⟨w.heap.size, 0, none⟩ = some (.slice (some a7) cv j7) := r1c T3.out 0)
    | (go_at_call 139; (with_reducible refine (KA.out _).mono ?_); rintro e w4 ⟨g2, S2, rfl, hS2, hB4, hg4, hb4⟩; have T4 := Lib.hid (T3.out.later hb4); have HB := Lib.hid hB4; have HS := Lib.hid hS2; have HG := Lib.hid hg4; clear hb4 hB4 hS2 hg4; have f4 : w4.frozen? ⟨w.heap.size, 1, none⟩ = false := r1f T4.out 1; have c4 : w4.cell? ⟨w.heap.size, 1, none⟩ = some (.slice none 0 0) := r1c T4.out 1; have T5 := Lib.hid (r1s T4.out 1 (.slice (some ⟨g2, 0, none⟩) S2 S2))))
  refine bodyPost_ret (results_cell_row rfl _ _ w.heap.size 68 #[.slice (some a7) cv j7, .slice (some ⟨g2, 0, none⟩) S2 S2] (0, 0) _ rfl T5.out.a0 Tryz.underlying68 rfl SZ.out) rfl ?_
  have hlt := T3.out.lt
  have hg2 : w.heap.size < g2 := Nat.lt_of_lt_of_le hlt HG.out
  exact ⟨g2, S2, rfl, HS.out, HB.out.later (Wr.setCell (S := [w.heap.size]) _ _ (by simp)) (by simp; omega), hg2, T5.out.bel⟩

set_option maxRecDepth 100000 in
set_option maxHeartbeats 2000000 in
theorem gkvA {w : World} {g o L cc n m cnt lv t : Nat} {T : List Nat} {fs gs : List Fld} {ls : List Nat} (h : Mess w g o L cc n T fidAdr) (ok1 : ∀ f ∈ fs, FldOk w f) (ok2 : ∀ f ∈ gs, FldOk w f) (h20 : ∀ x ∈ gs, x.n = 20) (l1 : fs.length = m) (l2 : gs.length = m) (hm : m ≤ 200) (hm0 : 0 < m) (k0 : 0 < total fs) (kb : total fs ≤ 20010) (M : AdrTold T fs gs ls m cnt lv t) :
    Calls Tryz.prog 82 #[.slice (some ⟨g, o, none⟩) L cc] w fun e w' => ∃ K0 K1 V0 V1, e = .returned (.tuple #[.agg #[K0, K1], .agg #[V0, V1], .int .u16 (m : Int)]) ∧ KvOk w w' g fs gs m K0 K1 V0 V1 := by
  have hg : g < w.heap.size := RB.lt_ h.rb (by have := h.l8; omega)
  have hcc := h.rb.le
  have hct := h.rb.top
  unfold maxLen at hct
  have c1 := cat_length ok1
  have c2 := cat_length ok2
  have t20 := total_20 h20
  have T0 := Lib.hid (rows2_start w 68 68 #[.slice none 0 0, .slice none 0 0] #[.slice none 0 0, .slice none 0 0])
  have F1 := Lib.hid (fileId (h.below T0.out.bel) ⟨#[65, 68, 82, 77]⟩ txtA)
  have KK := Lib.hid (keysA (h.below T0.out.bel) M.keys rfl (by omega) M.koff (ofb_length fs 1 (m - 1)) hm)
  have KV := Lib.hid fun w1 (h1 : Mess w1 g o L cc n T fidAdr) => valsA h1 M.vals rfl (by rw [c2, t20, l2]) hm hm0
  have KI := Lib.hid fun w1 (h1 : Mess w1 g o L cc n T fidAdr) => itemsA h1 M.keys (by omega) (by omega) M.koff hm hm0
  have SZ := Lib.hid szSB
  have HM := Lib.hid h
  have MM := Lib.hid M
  have H20 := Lib.hid h20
  have OK1 := Lib.hid ok1
  have OK2 := Lib.hid ok2
  have K00 := Lib.hid k0
  have KB := Lib.hid kb
  obtain ⟨a0, ha0⟩ := cutA_some ⟨g, o, none⟩ cc (ind T 0 + 4)
  obtain ⟨a1, ha1⟩ := cutA_some ⟨g, o, none⟩ cc (ind T 1 + 4)
  obtain ⟨a7, ha7⟩ := cutA_some ⟨g, o, none⟩ cc (ind T 2 + 4)
  have A0 := Lib.hid ha0
  have A1 := Lib.hid ha1
  have A7 := Lib.hid ha7
  rw [ha0, ha1] at KK
  rw [ha7] at KV
  obtain ⟨j0, hj0⟩ : ∃ j, j = cc - (ind T 0 + 4) := ⟨_, rfl⟩
  obtain ⟨j1, hj1⟩ : ∃ j, j = cc - (ind T 1 + 4) := ⟨_, rfl⟩
  obtain ⟨j7, hj7⟩ : ∃ j, j = cc - (ind T 2 + 4) := ⟨_, rfl⟩
  obtain ⟨ck, hck⟩ : ∃ j, j = (cat fs).length := ⟨_, rfl⟩
  obtain ⟨cv, hcv⟩ : ∃ j, j = (cat gs).length := ⟨_, rfl⟩
  obtain ⟨S, hS⟩ : ∃ S, S = 2 * (m - 1) := ⟨_, rfl⟩
  rw [← hj0, ← hj1, ← hck, ← hS] at KK
  rw [← hj7, ← hcv] at KV
  have J0 := Lib.hid hj0
  have J1 := Lib.hid hj1
  have J7 := Lib.hid hj7
  have CK := Lib.hid hck
  have CV := Lib.hid hcv
  have HS := Lib.hid hS
  have HL1 := Lib.hid l1
  have HL2 := Lib.hid l2
  have C1 := Lib.hid c1
  have C2 := Lib.hid c2
  have T20 := Lib.hid t20
  clear h ok1 ok2 h20 l1 l2 k0 kb M ha0 ha1 ha7 hj0 hj1 hj7 hck hcv hS c1 c2 t20
  go_enter Tryz.func82, Tryz.ntmps82
  go_wp2_with (first
    | (go_at_call 88; (with_reducible refine F1.out.mono ?_); rintro e w1 ⟨rfl, rfl⟩)
    | (go_at_call 107; (with_reducible refine KK.out.mono ?_); rintro e w1 ⟨rfl, hb1⟩; have T1 := Lib.hid (T0.out.later hb1); have O1 := Lib.hid (show (#[.slice (some a0) ck j0, .slice (some a1) S j1] : Array Value).all (·.oneCell') = true from (by simp [Value.oneCell'])); have Q1 := Lib.hid (show (#[.slice none 0 0, .slice none 0 0] : Array Value).size = (#[.slice (some a0) ck j0, .slice (some a1) S j1] : Array Value).size from rfl); have Z1 := Lib.hid (show (Tryz.prog.info? 68).map (·.size) = some (#[.slice (some a0) ck j0, .slice (some a1) S j1] : Array Value).size from szSB); have M2 := Lib.hid (HM.out.below (T1.out.set0 #[.slice (some a0) ck j0, .slice (some a1) S j1]).bel); clear hb1)
    | (with_reducible refine wpList_store_row rfl 68 (.tmp 2) (.tmp 18) rfl w.heap.size #[.slice (some a0) ck j0, .slice (some a1) S j1] rfl rfl 68 _ T1.out.a0 Z1.out Q1.out O1.out ?_; have T2 := Lib.hid (T1.out.set0 #[.slice (some a0) ck j0, .slice (some a1) S j1]))
    | (go_at_call 108; (with_reducible refine (KV.out _ M2.out).mono ?_); rintro e w3 ⟨g2, S2, rfl, hS2, hB2, hg2, hb3⟩; have T3 := Lib.hid (T2.out.later hb3); have HB2 := Lib.hid hB2; have HS2 := Lib.hid hS2; have HG2 := Lib.hid hg2; have O2 := Lib.hid (show (#[.slice (some a7) cv j7, .slice (some ⟨g2, 0, none⟩) S2 S2] : Array Value).all (·.oneCell') = true from (by simp [Value.oneCell'])); have Q2 := Lib.hid (show (#[.slice none 0 0, .slice none 0 0] : Array Value).size = (#[.slice (some a7) cv j7, .slice (some ⟨g2, 0, none⟩) S2 S2] : Array Value).size from rfl); have Z2 := Lib.hid (show (Tryz.prog.info? 68).map (·.size) = some (#[.slice (some a7) cv j7, .slice (some ⟨g2, 0, none⟩) S2 S2] : Array Value).size from szSB); have T4 := Lib.hid (T3.out.set1 #[.slice (some a7) cv j7, .slice (some ⟨g2, 0, none⟩) S2 S2]); have M4 := Lib.hid (HM.out.below T4.out.bel); clear hS2 hB2 hg2 hb3)
    | (with_reducible refine wpList_store_row rfl 68 (.tmp 3) (.tmp 20) rfl (w.heap.size + 1) #[.slice (some a7) cv j7, .slice (some ⟨g2, 0, none⟩) S2 S2] rfl rfl 68 _ T3.out.a1 Z2.out Q2.out O2.out ?_)
    | (go_at_call 109; (with_reducible refine (KI.out _ M4.out).mono ?_); rintro e w5 ⟨rfl, hb5⟩; have T5 := Lib.hid (T4.out.later hb5); have B5 := Lib.hid hb5; clear hb5))
  refine bodyPost_ret (results_rrt rfl _ _ w.heap.size (w.heap.size + 1) #[.slice (some a0) ck j0, .slice (some a1) S j1] #[.slice (some a7) cv j7, .slice (some ⟨g2, 0, none⟩) S2 S2] _ rfl rfl T5.out.a0 T5.out.a1 Tryz.underlying68 rfl SZ.out SZ.out) rfl ?_
  have hbf := T5.out.bel
  have hm2 := MM.out
  have hl1 := HL1.out
  have hl2 := HL2.out
  have e1 := C1.out
  have e2 := C2.out
  have k00 := K00.out
  have kb := KB.out
  have hs2 := HS2.out
  have hw1 : w.heap.size + 1 < (w1.setRow w.heap.size #[.slice (some a0) ck j0, .slice (some a1) S j1]).heap.size := T2.out.lt
  have hgg := HG2.out
  have hBf : Blk w5 g2 S2 (adr m) := (HB2.out.later (Wr.setRow (S := [w.heap.size + 1]) (g := w.heap.size + 1) w3 _ (by simp)) (by simp; omega)).later (Wr.of_below (S := []) B5.out) (by simp)
  have r0 := (vec_rb' HM.out.rb hm2.keys _ rfl).below hbf (Nat.le_refl _)
  have r1 := (vec_rb' HM.out.rb hm2.koff _ (ofb_length fs 1 (m - 1))).below hbf (Nat.le_refl _)
  have r7 := (vec_rb' HM.out.rb hm2.vals _ rfl).below hbf (Nat.le_refl _)
  have y0 := lies_cut w.heap.size g o cc (ind T 0 + 4) ck j0
  have y1 := lies_cut w.heap.size g o cc (ind T 1 + 4) S j1
  have y7 := lies_cut w.heap.size g o cc (ind T 2 + 4) cv j7
  rw [A0.out, ← CK.out, ← J0.out] at r0
  rw [A1.out, ← HS.out, ← J1.out] at r1
  rw [A7.out, ← CV.out, ← J7.out] at r7
  rw [A0.out] at y0
  rw [A1.out] at y1
  rw [A7.out] at y7
  have ck0 := CK.out
  have cv0 := CV.out
  have hs0 := HS.out
  have t20 := T20.out
  refine ⟨_, _, _, _, rfl, ⟨_, _, _, _, _, _, ofb fs 1 (m - 1), rfl, rfl, r0, r1, by omega, by omega, by omega, fun i hi => ⟨by omega, ?_⟩⟩, ⟨_, _, _, _, _, _, adr m, rfl, rfl, r7, blk_rb hBf (by rw [adr_length, hs2]) (Nat.le_refl _) (by unfold maxLen; omega) (adr_byte m), by omega, by omega, by omega, fun i hi => ⟨by omega, ?_⟩⟩, ⟨y0, y1, y7, lies_new _ _ _ _ _ (by omega)⟩, hbf⟩
  · have := ofb_ends (m := m) hl1 (by omega) hi
    rw [ck0, e1, hs0]
    exact this
  · have := adr_ends (m := m) hl2 H20.out hi hm
    rw [cv0, e2, hs2]
    exact this

set_option maxRecDepth 100000 in
set_option maxHeartbeats 2000000 in
theorem nodeA {w : World} {g o L cc n m cnt lv tt : Nat} {T : List Nat} {fs gs : List Fld} {ls : List Nat} (h : Mess w g o L cc n T fidAdr) (ok1 : ∀ f ∈ fs, FldOk w f) (ok2 : ∀ f ∈ gs, FldOk w f) (l1 : fs.length = m) (l2 : gs.length = m) (hm : m ≤ 200) (hm0 : 0 < m) (k0 : 0 < total fs) (kb : total fs ≤ 20010) (h20 : ∀ x ∈ gs, x.n = 20) (t : AdrTold T fs gs ls m cnt lv tt) :
    Calls Tryz.prog 37 #[.slice (some ⟨g, o, none⟩) L cc] w fun e w' => ∃ K0 K1 V0 V1, e = .returned (.agg #[K0, K1, V0, V1, .int .u16 (m : Int), .slice (some ⟨g, o, none⟩) L cc]) ∧ Sld w' K0 K1 fs m ∧ Sld w' V0 V1 gs m ∧ (Lies w.heap.size g K0 ∧ Lies w.heap.size g K1 ∧ Lies w.heap.size g V0 ∧ Lies w.heap.size g V1) ∧ Below w.heap.size w w' := by
  have hg : g < w.heap.size := RB.lt_ h.rb (by have := h.l8; omega)
  have hcc := h.rb.le
  have hct := h.rb.top
  unfold maxLen at hct
  have T0 := Lib.hid (row1_start w 71 #[.slice none 0 0, .slice none 0 0, .slice none 0 0, .slice none 0 0, .int .u16 0, .slice none 0 0])
  have KP := Lib.hid (gkvA (h.below T0.out.bel) (fun f hf => fld_below (ok1 f hf) T0.out.bel) (fun f hf => fld_below (ok2 f hf) T0.out.bel) h20 l1 l2 hm hm0 k0 kb t)
  have bm : m ≤ 65535 := by omega
  clear h ok1 ok2 l1 l2 hm0 k0 kb t h20
  go_enter Tryz.func37, Tryz.ntmps37
  go_wp2_with (first
    | (go_at_call 82; (with_reducible refine KP.out.mono ?_); rintro e w1 ⟨K0, K1, V0, V1, rfl, s1, s2, s3, hb1⟩; have T1 := Lib.hid (T0.out.later hb1); have S1 := Lib.hid s1; have S2 := Lib.hid s2; have S3 := Lib.hid s3; obtain ⟨x0, n0, d0, x1, n1, d1, rfl, rfl⟩ := sld_form s1; obtain ⟨x2, n2, d2, x3, n3, d3, rfl, rfl⟩ := sld_form s2; clear s1 s2 s3 hb1; have T2 := Lib.hid ((T1.out.alloc (.cells #[.slice x0 n0 d0, .slice x1 n1 d1] 68)).alloc (.cells #[.slice x2 n2 d2, .slice x3 n3 d3] 68)); have Q1 := Lib.hid (show (#[.slice none 0 0, .slice none 0 0, .slice none 0 0, .slice none 0 0, .int .u16 0, .slice none 0 0] : Array Value).size = (#[.slice x0 n0 d0, .slice x1 n1 d1, .slice x2 n2 d2, .slice x3 n3 d3, .int .u16 (m : Int), .slice (some ⟨g, o, none⟩) L cc] : Array Value).size from rfl); have Z1 := Lib.hid (show (Tryz.prog.info? 71).map (·.size) = some (#[.slice x0 n0 d0, .slice x1 n1 d1, .slice x2 n2 d2, .slice x3 n3 d3, .int .u16 (m : Int), .slice (some ⟨g, o, none⟩) L cc] : Array Value).size from szN); have O1 := Lib.hid (show (#[.slice x0 n0 d0, .slice x1 n1 d1, .slice x2 n2 d2, .slice x3 n3 d3, .int .u16 (m : Int), .slice (some ⟨g, o, none⟩) L cc] : Array Value).all (·.oneCell') = true from (by simp [Value.oneCell'])))
    | (with_reducible refine wpList_store_row rfl 71 (.tmp 2) (.tmp 16) rfl w.heap.size #[.slice x0 n0 d0, .slice x1 n1 d1, .slice x2 n2 d2, .slice x3 n3 d3, .int .u16 (m : Int), .slice (some ⟨g, o, none⟩) L cc] rfl rfl 71 _ T2.out.a0 Z1.out Q1.out O1.out ?_))
  refine bodyPost_ret (results_cell_row rfl _ _ w.heap.size 71 #[.slice x0 n0 d0, .slice x1 n1 d1, .slice x2 n2 d2, .slice x3 n3 d3, .int .u16 (m : Int), .slice (some ⟨g, o, none⟩) L cc] (0, 0) _ rfl (setRow_heap _ _ _ _ _ _ T2.out.a0) Tryz.underlying71 rfl Z1.out) rfl ?_
  obtain ⟨y0, y1, y2, y3⟩ := S3.out
  have hN : w.heap.size < (w.alloc (.cells #[.slice none 0 0, .slice none 0 0, .slice none 0 0, .slice none 0 0, .int .u16 0, .slice none 0 0] 71)).heap.size := by simp
  have hb : Below w1.heap.size w1 ((w1.alloc (.cells #[.slice x0 n0 d0, .slice x1 n1 d1] 68)).alloc (.cells #[.slice x2 n2 d2, .slice x3 n3 d3] 68)) := ((Below.refl _ _).alloc (Nat.le_refl _) _).alloc (by simp) _
  exact ⟨_, _, _, _, rfl, (S1.out.below hb).wr (Wr.setRow (S := [w.heap.size]) _ _ (by simp)) (lies_far1 y0 hg hN) (lies_far1 y1 hg hN), (S2.out.below hb).wr (Wr.setRow (S := [w.heap.size]) _ _ (by simp)) (lies_far1 y2 hg hN) (lies_far1 y3 hg hN), ⟨y0.less (Nat.le_of_lt hN), y1.less (Nat.le_of_lt hN), y2.less (Nat.le_of_lt hN), y3.less (Nat.le_of_lt hN)⟩, below_setRow T2.out.bel (Nat.le_refl _) _⟩

set_option maxRecDepth 100000 in
set_option maxHeartbeats 2000000 in
theorem subsA {w : World} {g o L cc n c1 c2 m : Nat} {T xs ys ls : List Nat} (h : Mess w g o L cc n T fidAdr) (V0 : Vec T 0 c1 xs) (b1 : c1 ≤ 100000) (p1 : 0 < c1) (V1 : Vec T 1 (m - 1) ys) (hm : m ≤ 200) (hm0 : 0 < m)
    (V8 : Vec T 3 c2 (encs 0 ls)) (l8 : (encs 0 ls).length = c2) (b2 : c2 ≤ 100000) (hl : ls.length = m) (hb : ∀ x ∈ ls, x < 18446744073709551616) :
    Calls Tryz.prog 151 #[.slice (some ⟨g, o, none⟩) L cc] w fun e w' => ∃ q, e = .returned (.slice (some ⟨q, 0, none⟩) m m) ∧ OwnU w w' q ls := by
  obtain ⟨i8, hi, hz0, hz1, hz2⟩ := info_parts Cnt.info47
  have KI := Lib.hid (itemsA h V0 b1 p1 V1 hm hm0)
  have KR := Lib.hid fun w1 (hbl : Below w.heap.size w w1) => rootA (h.below hbl).rb h.top h.pos4
  have KS := Lib.hid fun (w1 : World) (t : Nat) (h1 : Tbl w1 t g o L cc T) => aSC h1 h.m V8 l8 b2
  have KD := Lib.hid fun (w0 w1 : World) (q : Nat) (hbl : Below w.heap.size w w0) (hO : OwnU w0 w1 q (List.replicate m 0)) => Cnt.decodeVarints w0 w1 q m (cutA (some ⟨g, o, none⟩) cc (ind T 3 + 4)) c2 (cc - (ind T 3 + 4)) ls hl (by omega) (by omega) hb ((vec_rb' h.rb V8 c2 l8).below hbl (Nat.le_refl _)) hO
  have bm : m ≤ 65535 := by omega
  clear h V0 V1 V8 l8 hl hb p1
  go_enter Tryz.func151, Tryz.ntmps151
  go_wp2_with (first
    | (go_at_call 109; (with_reducible refine KI.out.mono ?_); rintro e w1 ⟨rfl, hb1⟩; have B1 := Lib.hid hb1; have O1 := Lib.hid (show OwnU w1 (w1.alloc (.cells (Cnt.us (List.replicate m 0)).toArray 33)) w1.heap.size (List.replicate m 0) from ⟨heap_alloc_new _ _, (Below.refl _ _).alloc (Nat.le_refl _) _, Nat.le_refl _⟩); clear hb1)
    | (at_make; refine wpList_make_row _ rfl _ _ 23 rfl 33 i8 (.int .u64 0) Tryz.underlying23 hi hz0 hz1 rfl .u16 .u16 m rfl rfl (by rw [hz2]; omega) (by omega) ?_; rw [Cnt.made_us])
    | (go_at_call 124; (with_reducible refine (KR.out _ (bw B1.out O1.out.bel)).mono ?_); rintro e w2 ⟨t, rfl, ht, h1, hb2⟩; have H1 := Lib.hid h1; have O2 := Lib.hid (ownU_later O1.out hb2); clear h1 hb2 ht)
    | (go_at_call 177; (with_reducible refine (KS.out _ _ H1.out).mono ?_); rintro e w3 ⟨rfl, hw3⟩; have O3 := Lib.hid (ownU_later O2.out (drew_below hw3)); clear hw3)
    | (go_at_call 175; (with_reducible refine (KD.out w1 _ w1.heap.size B1.out O3.out).mono ?_); rintro e w4 ⟨rfl, h4⟩; have O4 := Lib.hid h4; clear h4))
  go_ret
  exact ⟨w1.heap.size, rfl, ⟨O4.out.row, bw B1.out O4.out.bel, B1.out.size⟩⟩
/-- What the counts' reading wants of a message of names. -/
structure SubOkA (T ls : List Nat) (m : Nat) : Prop where
  v0 : ∃ c xs, Vec T 0 c xs ∧ c ≤ 100000 ∧ 0 < c
  v1 : ∃ ys, Vec T 1 (m - 1) ys
  v8 : Vec T 3 (encs 0 ls).length (encs 0 ls)
  b8 : (encs 0 ls).length ≤ 100000
  hl : ls.length = m
  hb : ∀ x ∈ ls, x < 18446744073709551616

set_option maxRecDepth 100000 in
theorem gSubsA {w : World} {g o L cc n m : Nat} {T ls : List Nat} (h : Mess w g o L cc n T fidAdr) (S : SubOkA T ls m) (hm : m ≤ 200) (hm0 : 0 < m) :
    Calls Tryz.prog 115 #[.slice (some ⟨g, o, none⟩) L cc] w fun e w' => ∃ q, e = .returned (.slice (some ⟨q, 0, none⟩) m m) ∧ OwnU w w' q ls := by
  obtain ⟨c1, xs, V0, b1, p1⟩ := S.v0
  obtain ⟨ys, V1⟩ := S.v1
  have K1 := Lib.hid (fileId h ⟨#[65, 68, 82, 77]⟩ txtA)
  have K2 := Lib.hid (subsA h V0 b1 p1 V1 hm hm0 S.v8 rfl S.b8 S.hl S.hb)
  have hcc := h.rb.le
  have hct := h.rb.top
  unfold maxLen at hct
  clear h V0 V1 S p1
  go_enter Tryz.func115, Tryz.ntmps115
  go_wp2_with (first
    | (go_at_call 88; (with_reducible refine K1.out.mono ?_); rintro e w1 ⟨rfl, rfl⟩)
    | (go_at_call 151; (with_reducible refine K2.out.mono ?_); rintro e w2 ⟨q, rfl, h2⟩; have H2 := Lib.hid h2; clear h2))
  go_ret
  exact ⟨q, rfl, H2.out⟩

set_option maxRecDepth 100000 in
theorem nSubsA {w : World} {g o L cc n m : Nat} {T ls : List Nat} (h : Mess w g o L cc n T fidAdr) (S : SubOkA T ls m) (hm : m ≤ 200) (hm0 : 0 < m) (k0 k1 v0 v1 : Value) (c0 : k0.oneCell' = true) (c1 : k1.oneCell' = true) (c2 : v0.oneCell' = true) (c3 : v1.oneCell' = true) :
    Calls Tryz.prog 87 #[.agg #[k0, k1, v0, v1, .int .u16 (m : Int), .slice (some ⟨g, o, none⟩) L cc]] w fun e w' => ∃ q, e = .returned (.slice (some ⟨q, 0, none⟩) m m) ∧ OwnU w w' q ls := by
  have hcc := h.rb.le
  have hct := h.rb.top
  unfold maxLen at hct
  have K2 := Lib.hid (gSubsA (h.below (w' := w.alloc (.cells #[k0, k1, v0, v1, .int .u16 (m : Int), .slice (some ⟨g, o, none⟩) L cc] 71)) ((Below.refl _ _).alloc (Nat.le_refl _) _)) S hm hm0)
  clear h S
  go_enter Tryz.func87, Tryz.ntmps87
  go_wp2_with (go_at_call 115; (with_reducible refine K2.out.mono ?_); rintro e w2 ⟨q, rfl, h2⟩; have H2 := Lib.hid h2; clear h2)
  go_ret
  exact ⟨q, rfl, ownU_less H2.out ((Below.refl _ _).alloc (Nat.le_refl _) _)⟩

set_option maxRecDepth 100000 in
theorem doorSubsA {w : World} {g o L cc n m : Nat} {T ls : List Nat} (h : Mess w g o L cc n T fidAdr) (S : SubOkA T ls m) (hm : m ≤ 200) (hm0 : 0 < m) (k0 k1 v0 v1 : Value) (c0 : k0.oneCell' = true) (c1 : k1.oneCell' = true) (c2 : v0.oneCell' = true) (c3 : v1.oneCell' = true) :
    Calls Tryz.prog 44 #[.agg #[k0, k1, v0, v1, .int .u16 (m : Int), .slice (some ⟨g, o, none⟩) L cc]] w fun e w' => ∃ q, e = .returned (.slice (some ⟨q, 0, none⟩) m m) ∧ OwnU w w' q ls := by
  have hcc := h.rb.le
  have hct := h.rb.top
  unfold maxLen at hct
  have K2 := Lib.hid (nSubsA (h.below (w' := w.alloc (.cells #[k0, k1, v0, v1, .int .u16 (m : Int), .slice (some ⟨g, o, none⟩) L cc] 71)) ((Below.refl _ _).alloc (Nat.le_refl _) _)) S hm hm0 k0 k1 v0 v1 c0 c1 c2 c3)
  clear h S
  go_enter Tryz.func44, Tryz.ntmps44
  go_wp2_with (go_at_call 87; (with_reducible refine K2.out.mono ?_); rintro e w2 ⟨q, rfl, h2⟩; have H2 := Lib.hid h2; clear h2)
  go_ret
  exact ⟨q, rfl, ownU_less H2.out ((Below.refl _ _).alloc (Nat.le_refl _) _)⟩

theorem rdrA {g o L cc m cnt lv t : Nat} {T : List Nat} {fs gs : List Fld} {ls : List Nat} {w0 : World} (M : AdrTold T fs gs ls m cnt lv t) (ok1 : ∀ f ∈ fs, FldOk w0 f) (ok2 : ∀ f ∈ gs, FldOk w0 f) (h20 : ∀ x ∈ gs, x.n = 20) (l1 : fs.length = m) (l2 : gs.length = m) (hm : m ≤ 200) (hm0 : 0 < m) (k0 : 0 < total fs) (kb : total fs ≤ 20010) (hlv : lv ≤ 255) (hc : cnt < 9223372036854775808) (hl : 0 < lv → ls.length = m) (hb : ∀ x ∈ ls, x ≤ 2199023255552) :
    Rdr g o L cc t m lv cnt T fidAdr fs gs ls m (cat gs) := by
  have c2 := cat_length ok2
  have c1 := cat_length ok1
  have t20 := total_20 h20
  have hk := M.keys.fit
  have htop := M.top
  exact {
    node := fun w h f1 f2 => nodeA h f1 f2 l1 l2 hm hm0 k0 kb h20 M
    lvl := fun w K0 K1 V0 V1 h c0 c1 c2 c3 => nLvlA h M.lvl (by omega) K0 K1 V0 V1 m hm c0 c1 c2 c3
    tc := fun w K0 K1 V0 V1 h c0 c1 c2 c3 => nCntA h M.cnt hc K0 K1 V0 V1 m hm c0 c1 c2 c3
    leaf := fun w K0 K1 V0 V1 h c0 c1 c2 c3 => isLeafA h M.lvl (by omega) K0 K1 V0 V1 m hm c0 c1 c2 c3
    subs := fun h0 w K0 K1 V0 V1 h c0 c1 c2 c3 => doorSubsA h ⟨⟨_, _, M.keys, by omega, by omega⟩, ⟨_, M.koff⟩, M.sub h0, by have := (M.sub h0).fit; omega, hl h0, fun x hx => by have := hb x hx; omega⟩ hm hm0 K0 K1 V0 V1 c0 c1 c2 c3
    walk := fun w B0 c0 c1 c2' c3 c4 c5 h hg hA => waA (R := fun e w' => ∃ av hs, Pieces (cat gs) m hs ∧ Ad w w' B0 c0 c1 c2' c3 c4 c5 av hs) h (walkA h hg hA M.vals rfl (by rw [c2, t20, l2]) hm) }
end Go.Proofs.YtegohkgmamnkdaaGreat.Msg
