/- What a message tells is what it was made of, the laws' test walked. Condition: the bytes are a message. -/
import Derived.Test.YtegohkgmamnkdaaGreatRdP
set_option linter.unusedVariables false
namespace Go.Proofs.YtegohkgmamnkdaaGreat.Msg
open Go.ChangeShapes Go.WideShapes Go.ChangeAt Go.RowKit
open Go.Proofs.YtegohkgmamnkdaaGreat.Dig Go.Proofs.YtegohkgmamnkdaaGreat.Mem Go.Proofs.YtegohkgmamnkdaaGreat.Rb
open Go.Proofs.YtegohkgmamnkdaaGreat.Cnt (encs enc Nums64 OwnU)

theorem sumU_take_succ {ls : List Nat} {j : Nat} (h : j < ls.length) : sumU (ls.take (j + 1)) = sumU (ls.take j) + ls.getD j 0 := by
  rw [List.take_succ_eq_append_getElem h, sumU_append, List.getD_eq_getElem?_getD, List.getElem?_eq_getElem h]
  simp [sumU]
theorem sumU_take_le {ls : List Nat} {B j : Nat} (hb : ∀ x ∈ ls, x ≤ B) (hj : j ≤ 200) : sumU (ls.take j) ≤ B * 200 :=
  Nat.le_trans (sumU_le fun x hx => hb x (List.mem_of_mem_take hx)) (Nat.mul_le_mul_left _ (by rw [List.length_take]; omega))
theorem szMsg7 (x0 x1 x2 x3 x4 x5 x6 : Value) : (Tryz.prog.info? 42).map (·.size) = some (#[x0, x1, x2, x3, x4, x5, x6] : Array Value).size := szMsg
theorem row_cell {w : World} {b i : Nat} {A : Array Value} {t : TypeId} (h : w.heap[b]? = some (.cells A t (0, 0))) : w.cell? ⟨b, i, none⟩ = A[i]? := by simp [World.cell?, h]

set_option maxRecDepth 100000 in
set_option maxHeartbeats 4000000 in
theorem vaToldI {w : World} {g o L cc n m lv cnt : Nat} {T id ls ys : List Nat} {fs gs : List Fld} {a b d : Option Addr} {c c2 ck : Nat} (R : Rdr g o L cc n m lv cnt T id fs gs ls m ys) (h : Mess w g o L cc n T id) (keys : Flds w a m c fs) (vals : Flds w b m c2 gs) (hm : m ≤ 200) (hm0 : 0 < m) (hkc : m ≤ ck) (hct : ck ≤ maxLen) (h0 : 0 < lv) (hlv : lv ≤ 255) (hc : cnt = sumU ls) (hl : ls.length = m) (hb : ∀ x ∈ ls, x ≤ 2199023255552) (hn : Nums64 w d ls) (nm : Bool) (hA : ∀ i, i < m → chunk ys i = (gs.getD i nof).xs) :
    Calls Tryz.prog 9 #[.slice (some ⟨g, o, none⟩) L cc, .slice a m c, .slice b m c2, .slice d m ck, .int .i64 (lv : Int), .bool nm] w fun e w' => e = .returned (.bool true) ∧ Below w.heap.size w w' := by
  have hcc := h.rb.le
  have hcct := h.rb.top
  have hc1 := keys.le
  have hc2 := keys.top
  have hc3 := vals.le
  have hc4 := vals.top
  unfold maxLen at hcct hc2 hc4 hct
  have hsm := sumU_le hb
  rw [hl] at hsm
  have hsm2 := Nat.mul_le_mul_left 2199023255552 hm
  have bcnt : cnt ≤ 439804651110400 := by omega
  have KR := Lib.hid (messageRead R h keys.ok vals.ok keys.len vals.len hm hm0 hlv (by omega) (fun _ => hl))
  have HK := Lib.hid fun W (hb : Below w.heap.size w W) => (keys.below hb).flr
  have HV := Lib.hid fun W (hb : Below w.heap.size w W) => (vals.below hb).flr
  have HA := Lib.hid hA
  have HLL := Lib.hid hl
  have HLB := Lib.hid hb
  have HC := Lib.hid hc
  have q0 : (0 : Int) < (lv : Int) := by omega
  have q1 : ((lv : Int) == 0) = false := by simp; omega
  have H0 := Lib.hid h0
  obtain ⟨bd, od, rfl, hbd, hcd⟩ := hn (by omega)
  have HD := Lib.hid fun W (hb : Below w.heap.size w W) i (hi : i < m) => (hb.cell (p := ⟨bd, od + i, none⟩) hbd).trans (hcd i (by omega))
  have hod : od + m ≤ od + m := Nat.le_refl _
  clear h keys vals R hn hl hb hc hA hsm hsm2 hcd h0
  go_enter Tryz.func9, Tryz.ntmps9
  go_wp2_with (first
    | (go_at_call 15; (with_reducible refine KR.out.mono ?_); rintro e w1 ⟨r, rfl, hok, hb1⟩; obtain ⟨a1, d1, a2, d2, q, a4, d4, fk, fv, hs, rfl, hfl, hsub⟩ := hok.inn H0.out; have SU := Lib.hid hsub; clear hsub; have FL := Lib.hid hfl; have e1 := hfl.1.le; have e2 := hfl.1.top; have e3 := hfl.2.2.1.le; have e4 := hfl.2.2.1.top; have e5 := hfl.2.2.2.2.1.le; have e6 := hfl.2.2.2.2.1.top; unfold maxLen at e2 e4 e6; clear hfl hok; have B1 := Lib.hid hb1; clear hb1; have ZC := Lib.hid (szMsg7 (.int .i64 (lv : Int)) (.int .i64 (m : Int)) (.int .i64 (cnt : Int)) (.slice a1 m d1) (.slice a2 m d2) (.slice (some ⟨q, 0, none⟩) m m) (.slice a4 m d4)); have QC := Lib.hid (show Msg0.size = (#[.int .i64 (lv : Int), .int .i64 (m : Int), .int .i64 (cnt : Int), .slice a1 m d1, .slice a2 m d2, .slice (some ⟨q, 0, none⟩) m m, .slice a4 m d4] : Array Value).size from rfl); have OC := Lib.hid (show (#[.int .i64 (lv : Int), .int .i64 (m : Int), .int .i64 (cnt : Int), .slice a1 m d1, .slice a2 m d2, .slice (some ⟨q, 0, none⟩) m m, .slice a4 m d4] : Array Value).all (·.oneCell') = true from (by simp [Value.oneCell'])); have R2 := Lib.hid (heap_alloc_new w1 (.cells (#[.int .i64 (lv : Int), .int .i64 (m : Int), .int .i64 (cnt : Int), .slice a1 m d1, .slice a2 m d2, .slice (some ⟨q, 0, none⟩) m m, .slice a4 m d4] : Array Value) 42)); have AL := Lib.hid ((Below.refl w1.heap.size w1).alloc (Nat.le_refl _) (.cells (#[.int .i64 (lv : Int), .int .i64 (m : Int), .int .i64 (cnt : Int), .slice a1 m d1, .slice a2 m d2, .slice (some ⟨q, 0, none⟩) m m, .slice a4 m d4] : Array Value) 42)))
    | (with_reducible refine store_new (A := Msg0) (t := 42) rfl 42 (.tmp 13) (.tmp 24) rfl (#[.int .i64 (lv : Int), .int .i64 (m : Int), .int .i64 (cnt : Int), .slice a1 m d1, .slice a2 m d2, .slice (some ⟨q, 0, none⟩) m m, .slice a4 m d4]) rfl rfl ZC.out QC.out OC.out ?_))
  have b13 := lt_of_obj R2.out
  have AW := Lib.hid (bw B1.out AL.out)
  clear ZC QC OC
  generalize w1.alloc (.cells (#[.int .i64 (lv : Int), .int .i64 (m : Int), .int .i64 (cnt : Int), .slice a1 m d1, .slice a2 m d2, .slice (some ⟨q, 0, none⟩) m m, .slice a4 m d4] : Array Value) 42) = W2 at *
  go_loopw [15, 32] (fun sv iv wr => ∃ j s : Nat, j ≤ m ∧ iv = .int .i64 (j : Int) ∧ sv = .int .i64 (s : Int) ∧ W2 = wr ∧ s = sumU (ls.take j)) (fun _ iv _ => m - (intOf iv).toNat)
  case atStart => exact ⟨0, 0, by omega, rfl, rfl, rfl, rfl⟩
  case round =>
    obtain ⟨j, s, hj, rfl, rfl, rfl, hs⟩ := hrel
    have bs := sumU_take_le (j := j) HLB.out (by omega)
    rw [← hs] at bs
    have HS := Lib.hid hs
    clear hs
    by_cases hlt : j < m
    · have hq : (j : Int) < (m : Int) := by omega
      have gx := HD.out _ AW.out j hlt
      obtain ⟨x, hx⟩ : ∃ x, x = ls.getD j 0 := ⟨_, rfl⟩
      rw [← hx] at gx
      have bx : x ≤ 2199023255552 := by rw [hx]; exact HLB.out _ (by rw [List.getD_eq_getElem?_getD, List.getElem?_eq_getElem (by rw [HLL.out]; exact hlt)]; exact List.getElem_mem _)
      have HX := Lib.hid hx
      clear hx
      go_wp2_with fail
      go_roundw
      case rel =>
        refine ⟨j + 1, s + x, by omega, by go_num, by go_num, trivial, ?_⟩
        rw [sumU_take_succ (by rw [HLL.out]; exact hlt), ← HX.out, HS.out]
      case measure => simp [intOf]; omega
    · obtain rfl : m = j := by omega
      obtain rfl : cnt = s := by rw [HS.out, HC.out, List.take_of_length_le (by rw [HLL.out]; exact Nat.le_refl _)]
      have k0 : W2.cell? ⟨w1.heap.size, 0, none⟩ = some (.int .i64 (lv : Int)) := row_cell R2.out
      have k1 : W2.cell? ⟨w1.heap.size, 1, none⟩ = some (.int .i64 (m : Int)) := row_cell R2.out
      have k2 : W2.cell? ⟨w1.heap.size, 2, none⟩ = some (.int .i64 (cnt : Int)) := row_cell R2.out
      have k3 : W2.cell? ⟨w1.heap.size, 3, none⟩ = some (.slice a1 m d1) := row_cell R2.out
      have U2 := Lib.hid fun W (hb : Below w1.heap.size w1 W) i (hi : i < m) => (hb.cell (p := ⟨q, i, none⟩) (lt_of_cell (SU.out i hi))).trans (SU.out i hi)
      go_wp2_with (first
        | (go_at_call 16; (with_reducible refine (vaAllT W2 a1 a m d1 c fk fs (FL.out.1.below AL.out) (HK.out _ (bw B1.out AL.out)) hm FL.out.2.1).mono ?_); rintro e w3 ⟨rfl, hk3⟩; have D3 := Lib.hid (drew_below hk3); clear hk3; have R3 := Lib.hid ((D3.out.block _ (lt_of_obj R2.out)).trans R2.out); have p4 := row_cell (i := 4) R3.out)
        | (go_at_call 16; (with_reducible refine (vaAllT w3 a2 b m d2 c2 fv gs (FL.out.2.2.1.below (bw AL.out D3.out)) (HV.out _ (bw B1.out (bw AL.out D3.out))) hm FL.out.2.2.2.1).mono ?_); rintro e w4 ⟨rfl, hk4⟩; have D4 := Lib.hid (drew_below hk4); clear hk4; have R4 := Lib.hid ((D4.out.block _ (lt_of_obj R3.out)).trans R3.out); have p5 := row_cell (i := 5) R4.out; have p6 := row_cell (i := 6) R4.out))
      go_loopw [86] (fun iv wr => ∃ j : Nat, j ≤ m ∧ iv = .int .i64 (j : Int) ∧ w4 = wr) (fun iv _ => m - (intOf iv).toNat)
      case atStart => exact ⟨0, by omega, rfl, rfl⟩
      case round =>
        obtain ⟨j, hj, rfl, rfl⟩ := hrel
        by_cases hlt : j < m
        · have hq : (j : Int) < (m : Int) := by omega
          have gx := HD.out _ (bw B1.out (bw AL.out (bw D3.out D4.out))) j hlt
          have gy := U2.out _ (bw AL.out (bw D3.out D4.out)) j hlt
          generalize ls.getD j 0 = x at gx gy
          go_wp2_with fail
          exact ⟨⟨j + 1, by omega, by simp, trivial⟩, by simp [intOf]; omega⟩
        · obtain rfl : m = j := by omega
          go_wp2_with (go_at_call 16; (with_reducible refine (vaAllT w4 a4 b m d4 c2 hs gs (FL.out.2.2.2.2.1.below (bw AL.out (bw D3.out D4.out))) (HV.out _ (bw B1.out (bw AL.out (bw D3.out D4.out)))) hm (fun i hi => (FL.out.2.2.2.2.2 i hi).trans (HA.out i hi))).mono ?_); rintro e w5 ⟨rfl, hk5⟩; have D5 := Lib.hid (drew_below hk5); clear hk5)
          go_ret
          exact ⟨rfl, bw (bw B1.out (bw AL.out (bw D3.out D4.out))) D5.out⟩

set_option maxRecDepth 100000 in
set_option maxHeartbeats 4000000 in
theorem vaToldP {w : World} {g o L cc n m : Nat} {T id ls ys : List Nat} {fs gs : List Fld} {a b d : Option Addr} {c c2 ck : Nat} (R : Rdr g o L cc n m 0 m T id fs gs ls 0 ys) (h : Mess w g o L cc n T id) (keys : Flds w a m c fs) (vals : Flds w b m c2 gs) (hm : m ≤ 200) (hm0 : 0 < m) (hkc : 0 ≤ ck) (hct : ck ≤ maxLen) :
    Calls Tryz.prog 9 #[.slice (some ⟨g, o, none⟩) L cc, .slice a m c, .slice b m c2, .slice d 0 ck, .int .i64 0, .bool false] w fun e w' => e = .returned (.bool true) ∧ Below w.heap.size w w' := by
  have hcc := h.rb.le
  have hcct := h.rb.top
  have hc1 := keys.le
  have hc2 := keys.top
  have hc3 := vals.le
  have hc4 := vals.top
  unfold maxLen at hcct hc2 hc4 hct
  have KR := Lib.hid (messageRead R h keys.ok vals.ok keys.len vals.len hm hm0 (by omega) (by omega) (fun h => absurd h (by omega)))
  have HK := Lib.hid fun W (hb : Below w.heap.size w W) => (keys.below hb).flr
  have HV := Lib.hid fun W (hb : Below w.heap.size w W) => (vals.below hb).flr
  have HN := Lib.hid (show ∀ W, Flr W none 0 0 [] from fun W => ⟨rfl, Nat.le_refl _, Nat.zero_le _, fun f hf => by simp at hf, fun h => absurd h (by omega)⟩)
  clear h keys vals R
  go_enter Tryz.func9, Tryz.ntmps9
  go_wp2_with (first
    | (go_at_call 15; (with_reducible refine KR.out.mono ?_); rintro e w1 ⟨r, rfl, hok, hb1⟩; obtain ⟨a1, d1, a2, d2, a4, d4, fk, fv, hs, rfl, hfl⟩ := hok.leaf; have FL := Lib.hid hfl; have e1 := hfl.1.le; have e2 := hfl.1.top; have e3 := hfl.2.2.1.le; have e4 := hfl.2.2.1.top; have e5 := hfl.2.2.2.2.1.le; have e6 := hfl.2.2.2.2.1.top; unfold maxLen at e2 e4 e6; clear hfl hok; have B1 := Lib.hid hb1; clear hb1; have ZC := Lib.hid (szMsg7 (.int .i64 0) (.int .i64 (m : Int)) (.int .i64 (m : Int)) (.slice a1 m d1) (.slice a2 m d2) (.slice none 0 0) (.slice a4 0 d4)); have QC := Lib.hid (show Msg0.size = (#[.int .i64 0, .int .i64 (m : Int), .int .i64 (m : Int), .slice a1 m d1, .slice a2 m d2, .slice none 0 0, .slice a4 0 d4] : Array Value).size from rfl); have OC := Lib.hid (show (#[.int .i64 0, .int .i64 (m : Int), .int .i64 (m : Int), .slice a1 m d1, .slice a2 m d2, .slice none 0 0, .slice a4 0 d4] : Array Value).all (·.oneCell') = true from (by simp [Value.oneCell'])); have R2 := Lib.hid (heap_alloc_new w1 (.cells (#[.int .i64 0, .int .i64 (m : Int), .int .i64 (m : Int), .slice a1 m d1, .slice a2 m d2, .slice none 0 0, .slice a4 0 d4] : Array Value) 42)); have AL := Lib.hid ((Below.refl w1.heap.size w1).alloc (Nat.le_refl _) (.cells (#[.int .i64 0, .int .i64 (m : Int), .int .i64 (m : Int), .slice a1 m d1, .slice a2 m d2, .slice none 0 0, .slice a4 0 d4] : Array Value) 42)))
    | (with_reducible refine store_new (A := Msg0) (t := 42) rfl 42 (.tmp 13) (.tmp 24) rfl (#[.int .i64 0, .int .i64 (m : Int), .int .i64 (m : Int), .slice a1 m d1, .slice a2 m d2, .slice none 0 0, .slice a4 0 d4]) rfl rfl ZC.out QC.out OC.out ?_)
    | (go_at_call 16; (with_reducible refine (vaAllT (w1.alloc (.cells (#[.int .i64 0, .int .i64 (m : Int), .int .i64 (m : Int), .slice a1 m d1, .slice a2 m d2, .slice none 0 0, .slice a4 0 d4] : Array Value) 42)) a1 a m d1 c fk fs (FL.out.1.below AL.out) (HK.out _ (bw B1.out AL.out)) hm FL.out.2.1).mono ?_); rintro e w3 ⟨rfl, hk3⟩; have D3 := Lib.hid (drew_below hk3); clear hk3; have R3 := Lib.hid ((D3.out.block _ (lt_of_obj R2.out)).trans R2.out); have p4 := row_cell (i := 4) R3.out)
    | (go_at_call 16; (with_reducible refine (vaAllT w3 a2 b m d2 c2 fv gs (FL.out.2.2.1.below (bw AL.out D3.out)) (HV.out _ (bw B1.out (bw AL.out D3.out))) hm FL.out.2.2.2.1).mono ?_); rintro e w4 ⟨rfl, hk4⟩; have D4 := Lib.hid (drew_below hk4); clear hk4; have R4 := Lib.hid ((D4.out.block _ (lt_of_obj R3.out)).trans R3.out); have p5 := row_cell (i := 5) R4.out; have p6 := row_cell (i := 6) R4.out)
    | (go_at_call 16; (with_reducible refine (vaAllT w4 a4 none 0 d4 0 hs [] (FL.out.2.2.2.2.1.below (bw AL.out (bw D3.out D4.out))) (HN.out _) (by omega) (fun i hi => absurd hi (by omega))).mono ?_); rintro e w5 ⟨rfl, hk5⟩; have D5 := Lib.hid (drew_below hk5); clear hk5))
  go_ret
  exact ⟨rfl, bw (bw B1.out (bw AL.out (bw D3.out D4.out))) D5.out⟩

set_option maxRecDepth 100000 in
set_option maxHeartbeats 4000000 in
theorem vaToldN {w : World} {g o L cc n m : Nat} {T id ls ys : List Nat} {fs gs : List Fld} {a b d : Option Addr} {c c2 ck : Nat} (R : Rdr g o L cc n m 0 m T id fs gs ls m ys) (h : Mess w g o L cc n T id) (keys : Flds w a m c fs) (vals : Flds w b m c2 gs) (hm : m ≤ 200) (hm0 : 0 < m) (hkc : 0 ≤ ck) (hct : ck ≤ maxLen) (hA : ∀ i, i < m → chunk ys i = (gs.getD i nof).xs) :
    Calls Tryz.prog 9 #[.slice (some ⟨g, o, none⟩) L cc, .slice a m c, .slice b m c2, .slice d 0 ck, .int .i64 0, .bool true] w fun e w' => e = .returned (.bool true) ∧ Below w.heap.size w w' := by
  have hcc := h.rb.le
  have hcct := h.rb.top
  have hc1 := keys.le
  have hc2 := keys.top
  have hc3 := vals.le
  have hc4 := vals.top
  unfold maxLen at hcct hc2 hc4 hct
  have KR := Lib.hid (messageRead R h keys.ok vals.ok keys.len vals.len hm hm0 (by omega) (by omega) (fun h => absurd h (by omega)))
  have HK := Lib.hid fun W (hb : Below w.heap.size w W) => (keys.below hb).flr
  have HV := Lib.hid fun W (hb : Below w.heap.size w W) => (vals.below hb).flr
  have HA := Lib.hid hA
  clear h keys vals R hA
  go_enter Tryz.func9, Tryz.ntmps9
  go_wp2_with (first
    | (go_at_call 15; (with_reducible refine KR.out.mono ?_); rintro e w1 ⟨r, rfl, hok, hb1⟩; obtain ⟨a1, d1, a2, d2, a4, d4, fk, fv, hs, rfl, hfl⟩ := hok.leaf; have FL := Lib.hid hfl; have e1 := hfl.1.le; have e2 := hfl.1.top; have e3 := hfl.2.2.1.le; have e4 := hfl.2.2.1.top; have e5 := hfl.2.2.2.2.1.le; have e6 := hfl.2.2.2.2.1.top; unfold maxLen at e2 e4 e6; clear hfl hok; have B1 := Lib.hid hb1; clear hb1; have ZC := Lib.hid (szMsg7 (.int .i64 0) (.int .i64 (m : Int)) (.int .i64 (m : Int)) (.slice a1 m d1) (.slice a2 m d2) (.slice none 0 0) (.slice a4 m d4)); have QC := Lib.hid (show Msg0.size = (#[.int .i64 0, .int .i64 (m : Int), .int .i64 (m : Int), .slice a1 m d1, .slice a2 m d2, .slice none 0 0, .slice a4 m d4] : Array Value).size from rfl); have OC := Lib.hid (show (#[.int .i64 0, .int .i64 (m : Int), .int .i64 (m : Int), .slice a1 m d1, .slice a2 m d2, .slice none 0 0, .slice a4 m d4] : Array Value).all (·.oneCell') = true from (by simp [Value.oneCell'])); have R2 := Lib.hid (heap_alloc_new w1 (.cells (#[.int .i64 0, .int .i64 (m : Int), .int .i64 (m : Int), .slice a1 m d1, .slice a2 m d2, .slice none 0 0, .slice a4 m d4] : Array Value) 42)); have AL := Lib.hid ((Below.refl w1.heap.size w1).alloc (Nat.le_refl _) (.cells (#[.int .i64 0, .int .i64 (m : Int), .int .i64 (m : Int), .slice a1 m d1, .slice a2 m d2, .slice none 0 0, .slice a4 m d4] : Array Value) 42)))
    | (with_reducible refine store_new (A := Msg0) (t := 42) rfl 42 (.tmp 13) (.tmp 24) rfl (#[.int .i64 0, .int .i64 (m : Int), .int .i64 (m : Int), .slice a1 m d1, .slice a2 m d2, .slice none 0 0, .slice a4 m d4]) rfl rfl ZC.out QC.out OC.out ?_)
    | (go_at_call 16; (with_reducible refine (vaAllT (w1.alloc (.cells (#[.int .i64 0, .int .i64 (m : Int), .int .i64 (m : Int), .slice a1 m d1, .slice a2 m d2, .slice none 0 0, .slice a4 m d4] : Array Value) 42)) a1 a m d1 c fk fs (FL.out.1.below AL.out) (HK.out _ (bw B1.out AL.out)) hm FL.out.2.1).mono ?_); rintro e w3 ⟨rfl, hk3⟩; have D3 := Lib.hid (drew_below hk3); clear hk3; have R3 := Lib.hid ((D3.out.block _ (lt_of_obj R2.out)).trans R2.out); have p4 := row_cell (i := 4) R3.out)
    | (go_at_call 16; (with_reducible refine (vaAllT w3 a2 b m d2 c2 fv gs (FL.out.2.2.1.below (bw AL.out D3.out)) (HV.out _ (bw B1.out (bw AL.out D3.out))) hm FL.out.2.2.2.1).mono ?_); rintro e w4 ⟨rfl, hk4⟩; have D4 := Lib.hid (drew_below hk4); clear hk4; have R4 := Lib.hid ((D4.out.block _ (lt_of_obj R3.out)).trans R3.out); have p5 := row_cell (i := 5) R4.out; have p6 := row_cell (i := 6) R4.out)
    | (go_at_call 16; (with_reducible refine (vaAllT w4 a4 b m d4 c2 hs gs (FL.out.2.2.2.2.1.below (bw AL.out (bw D3.out D4.out))) (HV.out _ (bw B1.out (bw AL.out (bw D3.out D4.out)))) hm (fun i hi => (FL.out.2.2.2.2.2 i hi).trans (HA.out i hi))).mono ?_); rintro e w5 ⟨rfl, hk5⟩; have D5 := Lib.hid (drew_below hk5); clear hk5))
  go_ret
  exact ⟨rfl, bw (bw B1.out (bw AL.out (bw D3.out D4.out))) D5.out⟩
end Go.Proofs.YtegohkgmamnkdaaGreat.Msg
