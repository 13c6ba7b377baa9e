/- The size that a map's node is thought to need, walked. Condition: at most 200 items, 20000 bytes. -/
import Derived.Test.YtegohkgmamnkdaaEst
set_option linter.unusedVariables false
namespace Go.Proofs.Ytegohkgmamnkdaa.Msg
open Go.ChangeShapes Go.WideShapes Go.ChangeAt Go.RowKit
open Go.Proofs.Ytegohkgmamnkdaa.Dig Go.Proofs.Ytegohkgmamnkdaa.Mem Go.Proofs.Ytegohkgmamnkdaa.Rb

set_option maxRecDepth 100000 in
set_option maxHeartbeats 1000000 in
theorem estMap (w : World) (a b d : Option Addr) (m c c' k ck kn vn Z : Nat) (fs gs : List Fld) (h : Flds w a m c fs) (h' : Flds w b m c' gs) (hm : m ≤ 200) (hk : k ≤ 200) (hkn : kn = total fs) (hvn : vn = total gs) (hkb : kn ≤ 20010) (hvb : vn ≤ 20010)
    (hZ : Z = kn + vn + 10 * k + 4 * m + 183) :
    Calls Try.prog 12 #[.slice a m c, .slice b m c', .slice d k ck] w fun e w' => e = .returned (.tuple #[.int .i64 (kn : Int), .int .i64 (vn : Int), .int .i64 (Z : Int)]) ∧ w = w' := by
  have H := Lib.hid h
  have H' := Lib.hid h'
  have HK := Lib.hid hkn
  have HV := Lib.hid hvn
  have q1 : (kn : Int) + (vn : Int) + (k : Int) * 10 + ((m : Int) * 2 + (m : Int) * 2) + 11 + 72 + 100 = (Z : Int) := by omega
  have HZ := Lib.hid hZ
  have hc1 := h.le
  have hc2 := h.top
  have hc3 := h'.le
  have hc4 := h'.top
  unfold maxLen at hc2 hc4
  clear h h' hkn hvn hZ
  go_enter Try.func12, Try.ntmps12
  go_wp2_with fail
  go_loopw [6, 7, 13] (fun kv vv iv wr => ∃ i s t : Nat, i ≤ m ∧ iv = .int .i64 (i : Int) ∧ kv = .int .i64 (s : Int) ∧ vv = .int .i64 (t : Int) ∧ s = total (fs.take i) ∧ t = total (gs.take i) ∧ w = wr) (fun _ _ iv _ => m - (intOf iv).toNat)
  case atStart => exact ⟨0, 0, 0, by omega, rfl, rfl, rfl, rfl, rfl, rfl⟩
  case round =>
    obtain ⟨i, s, t, hi, rfl, rfl, rfl, hs, ht, rfl⟩ := hrel
    have hsb : s ≤ 20010 := by rw [hs]; exact Nat.le_trans (total_take_le _ _) (by rw [← HK.out]; exact hkb)
    have htb : t ≤ 20010 := by rw [ht]; exact Nat.le_trans (total_take_le _ _) (by rw [← HV.out]; exact hvb)
    have HS := Lib.hid hs
    have HT := Lib.hid ht
    clear hs ht
    by_cases hlt : i < m
    · obtain ⟨b1, o1, e1, _, hcell1⟩ := H.out.at_ (by omega)
      obtain ⟨b2, o2, e2, _, hcell2⟩ := H'.out.at_ (by omega)
      subst e1
      subst e2
      obtain ⟨f, hf⟩ : ∃ f, f = fs.getD i nof := ⟨_, rfl⟩
      obtain ⟨g, hg⟩ : ∃ g, g = gs.getD i nof := ⟨_, rfl⟩
      have gx := hcell1 i hlt
      have gy := hcell2 i hlt
      rw [← hf] at gx
      rw [← hg] at gy
      unfold Fld.v at gx gy
      have l1 : i < fs.length := by rw [H.out.len]; exact hlt
      have l2 : i < gs.length := by rw [H'.out.len]; exact hlt
      have n1 : s + f.n ≤ 20010 := by have := total_next l1; have := HK.out; rw [HS.out, hf]; omega
      have n2 : t + g.n ≤ 20010 := by have := total_next l2; have := HV.out; rw [HT.out, hg]; omega
      have b1' : f.n ≤ 20010 := by omega
      have b2' : g.n ≤ 20010 := by omega
      have HF := Lib.hid hf
      have HG := Lib.hid hg
      clear hcell1 hcell2 hf hg
      go_wp2_with fail
      go_roundw
      case rel =>
        refine ⟨i + 1, s + f.n, t + g.n, by omega, by go_num, by go_num, by go_num, ?_, ?_, trivial⟩
        · rw [take_more l1, total_append, ← HF.out, HS.out]; simp [total]
        · rw [take_more l2, total_append, ← HG.out, HT.out]; simp [total]
      case measure => simp [intOf]; omega
    · obtain rfl : i = m := by omega
      have e1 : s = kn := by rw [HS.out, HK.out, List.take_of_length_le (by rw [H.out.len]; exact Nat.le_refl _)]
      have e2 : t = vn := by rw [HT.out, HV.out, List.take_of_length_le (by rw [H'.out.len]; exact Nat.le_refl _)]
      subst e1
      subst e2
      have g1 : ¬ (65535 : Int) < (s : Int) := by omega
      have g2 : ¬ (65535 : Int) < (t : Int) := by omega
      go_wp2_with fail
      refine bodyPost_ret (results_tmp3 rfl _ _ _) rfl ?_
      exact ⟨rfl, rfl⟩
end Go.Proofs.Ytegohkgmamnkdaa.Msg
