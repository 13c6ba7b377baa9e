/- The message of a node of names: what it is; the size that it is thought to need, walked. Condition: at most 200 items, 20000 bytes. -/
import Derived.Test.YtegohkgmamnkdaaGreatImM
import Derived.Test.YtegohkgmamnkdaaGreatSerA
import Derived.Test.YtegohkgmamnkdaaGreatRd6
set_option linter.unusedVariables false
namespace Go.Proofs.YtegohkgmamnkdaaGreat.Msg
open Go.ChangeShapes Go.WideShapes Go.ChangeAt Go.RowKit
open Go.Proofs.YtegohkgmamnkdaaGreat.Dig Go.Proofs.YtegohkgmamnkdaaGreat.Mem Go.Proofs.YtegohkgmamnkdaaGreat.Rb
open Go.Proofs.YtegohkgmamnkdaaGreat.Cnt (encs enc Nums64)

/-- The object of a node of names: a leaf's, an inner node's. -/
def adrO (fs gs : List Fld) (m : Nat) (x : List Nat) (cnt lv : Nat) : List Nat × List Nat :=
  putN 1 5 lv (putN 8 4 cnt (putU 2 (valsX fs gs m).length (putU 1 (keysX fs m).length (putU 0 (vec (cat fs) []).length (zr 6, x)))))
def adrI (fs gs : List Fld) (m : Nat) (x : List Nat) (cnt lv : Nat) : List Nat × List Nat :=
  putN 1 5 lv (putN 8 4 cnt (putU 3 x.length (putU 2 (valsX fs gs m).length (putU 1 (keysX fs m).length (putU 0 (vec (cat fs) []).length (zr 6, x))))))
def msgOA (ma t : Nat) (x : List Nat) (o : List Nat × List Nat) : List Nat := finO ma (o.2.length + padOf 4 o.2.length + 4) fidAdr (endO o.1 o.2 x.length t)
/-- The message. -/
def msgAdr (fs gs : List Fld) (ls : List Nat) (m lv : Nat) : List Nat :=
  if lv = 0 then msgOA 8 5 (valsX fs gs m) (adrO fs gs m (valsX fs gs m) m 0)
  else msgOA (if sumU ls = 0 then 4 else 8) 6 (innX fs gs ls m) (adrI fs gs m (innX fs gs ls m) (sumU ls) lv)
theorem msgOA_length (ma t : Nat) (x : List Nat) (o : List Nat × List Nat) : 0 < (msgOA ma t x o).length := by
  simp only [msgOA, finO, List.length_append, le_length]; omega

set_option maxRecDepth 100000 in
theorem okAssert (w : World) : Calls Tryz.prog 63 #[.bool true] w fun e w' => e = .returned (.tuple #[]) ∧ w = w' := by
  go_enter Tryz.func63, Tryz.ntmps63
  go_wp2
  go_end0
  exact ⟨rfl, rfl⟩

set_option maxRecDepth 100000 in
set_option maxHeartbeats 1000000 in
theorem estAdr (w : World) (a b d : Option Addr) (m c c' k ck kn vn Z : Nat) (fs gs : List Fld) (h : Flds w a m c fs) (h' : Flds w b m c' gs) (hm : m ≤ 200) (hk : k ≤ 200) (hkn : kn = total fs) (hvn : vn = total gs) (hkb : kn ≤ 20010) (hvb : vn ≤ 20010)
    (hZ : Z = kn + vn + 2 * m + 10 * k + 83) :
    Calls Tryz.prog 19 #[.slice a m c, .slice b m c', .slice d k ck] w fun e w' => e = .returned (.tuple #[.int .i64 (kn : Int), .int .i64 (vn : Int), .int .i64 (Z : Int)]) ∧ w = w' := by
  have H := Lib.hid h
  have H' := Lib.hid h'
  have HK := Lib.hid hkn
  have HV := Lib.hid hvn
  have q1 : (kn : Int) + (vn : Int) + (m : Int) * 2 + (k : Int) * 10 + 11 + 72 = (Z : Int) := by omega
  have HZ := Lib.hid hZ
  have hc1 := h.le
  have hc2 := h.top
  have hc3 := h'.le
  have hc4 := h'.top
  unfold maxLen at hc2 hc4
  clear h h' hkn hvn hZ
  go_enter Tryz.func19, Tryz.ntmps19
  go_wp2_with (go_at_call 63; (with_reducible refine (okAssert _).mono ?_); rintro e w1 ⟨rfl, rfl⟩)
  go_loopw [6, 7, 18] (fun kv vv iv wr => ∃ i s t : Nat, i ≤ m ∧ iv = .int .i64 (i : Int) ∧ kv = .int .i64 (s : Int) ∧ vv = .int .i64 (t : Int) ∧ s = total (fs.take i) ∧ t = total (gs.take i) ∧ w = wr) (fun _ _ iv _ => m - (intOf iv).toNat)
  case atStart => exact ⟨0, 0, 0, by omega, rfl, rfl, rfl, rfl, rfl, rfl⟩
  case round =>
    obtain ⟨i, s, t, hi, rfl, rfl, rfl, hs, ht, rfl⟩ := hrel
    have hsb : s ≤ 20010 := by rw [hs]; exact Nat.le_trans (total_take_le _ _) (by rw [← HK.out]; exact hkb)
    have htb : t ≤ 20010 := by rw [ht]; exact Nat.le_trans (total_take_le _ _) (by rw [← HV.out]; exact hvb)
    have HS := Lib.hid hs
    have HT := Lib.hid ht
    clear hs ht
    by_cases hlt : i < m
    · obtain ⟨b1, o1, e1, _, hcell1⟩ := H.out.at_ (by omega)
      obtain ⟨b2, o2, e2, _, hcell2⟩ := H'.out.at_ (by omega)
      subst e1
      subst e2
      obtain ⟨f, hf⟩ : ∃ f, f = fs.getD i nof := ⟨_, rfl⟩
      obtain ⟨g, hg⟩ : ∃ g, g = gs.getD i nof := ⟨_, rfl⟩
      have gx := hcell1 i hlt
      have gy := hcell2 i hlt
      rw [← hf] at gx
      rw [← hg] at gy
      unfold Fld.v at gx gy
      have l1 : i < fs.length := by rw [H.out.len]; exact hlt
      have l2 : i < gs.length := by rw [H'.out.len]; exact hlt
      have n1 : s + f.n ≤ 20010 := by have := total_next l1; have := HK.out; rw [HS.out, hf]; omega
      have n2 : t + g.n ≤ 20010 := by have := total_next l2; have := HV.out; rw [HT.out, hg]; omega
      have b1' : f.n ≤ 20010 := by omega
      have b2' : g.n ≤ 20010 := by omega
      have HF := Lib.hid hf
      have HG := Lib.hid hg
      clear hcell1 hcell2 hf hg
      go_wp2_with fail
      go_roundw
      case rel =>
        refine ⟨i + 1, s + f.n, t + g.n, by omega, by go_num, by go_num, by go_num, ?_, ?_, trivial⟩
        · rw [take_more l1, total_append, ← HF.out, HS.out]; simp [total]
        · rw [take_more l2, total_append, ← HG.out, HT.out]; simp [total]
      case measure => simp [intOf]; omega
    · obtain rfl : i = m := by omega
      have e1 : s = kn := by rw [HS.out, HK.out, List.take_of_length_le (by rw [H.out.len]; exact Nat.le_refl _)]
      have e2 : t = vn := by rw [HT.out, HV.out, List.take_of_length_le (by rw [H'.out.len]; exact Nat.le_refl _)]
      subst e1
      subst e2
      go_wp2_with fail
      refine bodyPost_ret (results_tmp3 rfl _ _ _) rfl ?_
      exact ⟨rfl, rfl⟩
end Go.Proofs.YtegohkgmamnkdaaGreat.Msg
