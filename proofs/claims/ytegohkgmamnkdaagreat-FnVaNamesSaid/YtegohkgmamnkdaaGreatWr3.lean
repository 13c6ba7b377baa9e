/- The offsets of rows written as a vector, walked. Condition: the builder grows once at most. -/
import Derived.Test.YtegohkgmamnkdaaGreatWr2
set_option linter.unusedVariables false
namespace Go.Proofs.YtegohkgmamnkdaaGreat.Msg
open Go.ChangeShapes Go.WideShapes Go.ChangeAt Go.RowKit
open Go.Proofs.YtegohkgmamnkdaaGreat.Dig Go.Proofs.YtegohkgmamnkdaaGreat.Mem Go.Proofs.YtegohkgmamnkdaaGreat.Rb

/-- Where the rows from number i on begin, c of them, in two bytes each. -/
def ofb (fs : List Fld) : Nat → Nat → List Nat
  | _, 0 => []
  | i, c + 1 => le 2 (total (fs.take i)) ++ ofb fs (i + 1) c
theorem ofb_length (fs : List Fld) : ∀ i c, (ofb fs i c).length = 2 * c
  | _, 0 => rfl
  | i, c + 1 => by rw [ofb, List.length_append, le_length, ofb_length fs (i + 1) c]; omega

set_option maxRecDepth 100000 in
set_option maxHeartbeats 2000000 in
theorem writeOffsets (w0 w : World) (B N0 n m c L : Nat) (a : Option Addr) (K : List (Nat × Obj)) (fs : List Fld) (xs : List Nat) (s : St) (h : Bx w0 w B N0 (2 * (m - 1) + 4) K xs s) (hf : Fine N0 s) (hs : s.ne = true) (hma : 4 ≤ s.ma) (hfs : Flds w0 a m c fs) (hm : m ≤ 200) (hm0 : 0 < m) (hn : n = total fs) (hnb : n ≤ 20010)
    (hev : xs.length % 2 = 0) (hfit : xs.length + 2 * (m - 1) + 4 < N0 * 2) (hL : L = xs.length + 2 * (m - 1) + 4) :
    Calls Tryz.prog 23 #[.pointer (some ⟨B, 0, none⟩), .slice a m c, .int .i64 (n : Int)] w fun e w' => e = .returned (.int .u32 (L : Int)) ∧ Bx w0 w' B N0 0 K (le 4 (m - 1) ++ (ofb fs 1 (m - 1) ++ xs)) { s with ne := false } := by
  have FS := Lib.hid hfs
  have HB := Lib.hid h
  have HNN := Lib.hid hn
  have HFN := Lib.hid hf
  have HS := Lib.hid hs
  have HFT := Lib.hid hfit
  have HL := Lib.hid hL
  have HEV := Lib.hid hev
  have HMA := Lib.hid hma
  have hmc := hfs.le
  have hmt := hfs.top
  unfold maxLen at hmt
  obtain ⟨m1, hm1⟩ : ∃ m1, m1 = m - 1 := ⟨_, rfl⟩
  have e1 : (m : Int) - 1 = (m1 : Int) := by omega
  rw [← hm1] at HB HFT HL ⊢
  have HM1 := Lib.hid hm1
  have bm1 : m1 ≤ 199 := by omega
  clear h hf hs hma hfs hn hev hfit hL hm1
  go_enter Tryz.func23, Tryz.ntmps23
  go_wp2_with fail
  go_loopw [7, 8, 9] (fun cv ov iv wr => ∃ j o i : Nat, j + i = m1 ∧ cv = .int .i64 (j : Int) ∧ ov = .int .i64 (o : Int) ∧ iv = .int .i64 (i : Int) ∧ o = total (fs.take (i + 1)) ∧ Bx w0 wr B N0 (2 * i + 4) K (ofb fs (i + 1) j ++ xs) s) (fun _ _ iv _ => (intOf iv).toNat)
  case atStart =>
    refine ⟨0, n, m1, by omega, rfl, rfl, rfl, ?_, HB.out⟩
    rw [HNN.out, List.take_of_length_le (by rw [FS.out.len]; have := HM1.out; omega)]
  case round =>
    obtain ⟨j, o, i, hji, rfl, rfl, rfl, ho, hb⟩ := hrel
    have HO := Lib.hid ho
    have HB1 := Lib.hid hb
    have hob : o ≤ 20010 := by rw [ho]; exact Nat.le_trans (total_take_le _ _) (by rw [← HNN.out]; exact hnb)
    clear ho hb
    by_cases h0 : 0 < i
    · obtain ⟨b, p, ea, hb2, hcell⟩ := FS.out.at_ (by omega)
      subst ea
      obtain ⟨f, hf⟩ : ∃ f, f = fs.getD i nof := ⟨_, rfl⟩
      have him : i < m := by have := HM1.out; omega
      have hkl : i < fs.length := by rw [FS.out.len]; exact him
      have gx : wr.cell? ⟨b, p + i, none⟩ = some (.slice f.a f.n f.c) := by
        have := (HB1.out.bel.cell (p := ⟨b, p + i, none⟩) hb2).trans (hcell i him)
        rw [← hf] at this; exact this
      obtain ⟨o2, ho2⟩ : ∃ o2, o2 = total (fs.take i) := ⟨_, rfl⟩
      have hsum : o = o2 + f.n := by rw [HO.out, ho2, hf, take_more hkl, total_append]; simp [total]
      have e2 : (o : Int) - (f.n : Int) = (o2 : Int) := by omega
      have hob2 : o2 ≤ 20010 := by omega
      have hfn : f.n ≤ 20010 := by omega
      obtain ⟨i2, hi2⟩ : ∃ i2, i = i2 + 1 := ⟨i - 1, by omega⟩
      have hlen : (ofb fs (i + 1) j ++ xs).length = 2 * j + xs.length := by rw [List.length_append, ofb_length]
      have K1 := Lib.hid (prependU16 w0 wr B N0 (2 * i + 4) (2 * i2 + 4) 0 o2 K (ofb fs (i + 1) j ++ xs) s HB1.out HFN.out (by rw [hlen]; have := HEV.out; unfold padOf; omega) (by rw [hlen]; have := HFT.out; omega) (by omega) (by omega))
      have EM := Lib.hid (show ({ s with ma := mx s.ma 2 } : St) = s by
        have : mx s.ma 2 = s.ma := by unfold mx; rw [if_neg (by have := HMA.out; omega)]
        rw [this])
      have HF := Lib.hid hf
      have HO2 := Lib.hid ho2
      have HI2 := Lib.hid hi2
      have h0' : (0 : Int) < (i : Int) := by omega
      clear hcell hf ho2 hsum hlen hkl hi2
      go_wp2_with (go_at_call 70; (with_reducible refine K1.out.mono ?_); rintro e w2 ⟨rfl, h2⟩; have H2 := Lib.hid (bx_st h2 EM.out); clear h2)
      go_roundw
      case rel =>
        refine ⟨j + 1, o2, i2, by have := HI2.out; omega, by go_num, rfl, by have := HI2.out; go_num, by rw [← HI2.out]; exact HO2.out, ?_⟩
        have := H2.out
        rw [List.replicate_zero, List.nil_append, ← List.append_assoc] at this
        rw [← HI2.out, ofb, ← HO2.out]
        exact this
      case measure => simp [intOf]; omega
    · obtain rfl : i = 0 := by omega
      obtain rfl : j = m1 := by omega
      have K7 := Lib.hid (endVector w0 wr B N0 0 j L K (ofb fs 1 j ++ xs) s HB1.out HS.out (by omega) (by rw [List.length_append, ofb_length, HL.out]; omega) HFN.out.1)
      go_wp2_with (go_at_call 71; (with_reducible refine K7.out.mono ?_); rintro e w7 ⟨rfl, h7⟩; have H7 := Lib.hid h7; clear h7)
      go_ret
      exact ⟨rfl, H7.out⟩
end Go.Proofs.YtegohkgmamnkdaaGreat.Msg
