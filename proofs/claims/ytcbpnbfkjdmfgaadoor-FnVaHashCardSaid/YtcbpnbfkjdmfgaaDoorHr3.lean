/- The reading of a hash's text: MaybeParse, Parse, HashRead, HashParse, HashNew, walked. No condition. -/
import Derived.Test.YtcbpnbfkjdmfgaaDoorHr2
set_option linter.unusedVariables false
namespace Go.Proofs.YtcbpnbfkjdmfgaaDoor.Hr
open Go.ChangeShapes Go.WideShapes Go.ChangeAt Go.RowKit
open Go.Proofs.YtcbpnbfkjdmfgaaDoor.Dig Go.Proofs.YtcbpnbfkjdmfgaaDoor.Mem Go.Proofs.YtcbpnbfkjdmfgaaDoor.Rb Go.Proofs.YtcbpnbfkjdmfgaaDoor.Ord

/-- Twenty noughts as the walk spells them. -/
abbrev Z20 : Array Value := #[.int .u8 0, .int .u8 0, .int .u8 0, .int .u8 0, .int .u8 0, .int .u8 0, .int .u8 0, .int .u8 0, .int .u8 0, .int .u8 0, .int .u8 0, .int .u8 0, .int .u8 0, .int .u8 0, .int .u8 0, .int .u8 0, .int .u8 0, .int .u8 0, .int .u8 0, .int .u8 0]
/-- What is read. -/
def got (cs : List Nat) : List Nat := if good cs = true then digs 256 20 (val 32 (cs.map unchr)) else zer
theorem got_length (cs : List Nat) : (got cs).length = 20 := by
  unfold got
  split
  · exact digs_length _ _ _
  · rfl

set_option maxRecDepth 100000 in
theorem maybeParse (w : World) (s : ByteArray) (cs : List Nat) (h : IsTxt s cs) :
    Calls Tryd.prog 14 #[.string s] w fun e w' => e = .returned (.tuple #[.agg (Arr .u8 (got cs)), .bool (good cs)]) ∧ Below w.heap.size w w' := by
  have T0 := Lib.hid (row1_start w 31 (Arr .u8 zer))
  have K63 := Lib.hid fun w' => formed w' s cs h
  have HS := Lib.hid (size64 (got_length cs))
  have HZ := Lib.hid (show (Arr .u8 zer).size = (Arr .u8 (got cs)).size by rw [Arr_size, Arr_size, got_length]; rfl)
  by_cases hg : good cs = true
  · have K64 := Lib.hid fun w' => decode w' s cs h hg
    have hgot : got cs = digs 256 20 (val 32 (cs.map unchr)) := by unfold got; rw [if_pos hg]
    rw [← hgot] at K64
    have HG := Lib.hid hg
    rw [hg] at K63
    clear h hg hgot
    go_enter Tryd.func14, Tryd.ntmps14
    go_wp2_with (first
      | (go_at_call 25; (with_reducible refine (K63.out _).mono ?_); rintro e w1 ⟨rfl, rfl⟩)
      | (go_at_call 26; (with_reducible refine (K64.out _).mono ?_); rintro e w1 ⟨a, c, rfl, hr, hb1⟩; have T1 := Lib.hid (T0.out.later hb1))
      | (go_at_call 18; (with_reducible refine (newGood _ _ _ _ hr).mono ?_); rintro e w2 ⟨rfl, hb2⟩; have T2 := Lib.hid (T1.out.later hb2))
      | (with_reducible refine store_r1 T2 rfl 31 (.tmp 2) (.tmp 10) rfl (Arr .u8 (got cs)) rfl rfl HS.out HZ.out (one_cells _) ?_; intro w3 T3))
    refine bodyPost_ret (results_row_tmp rfl _ _ w.heap.size 31 (Arr .u8 (got cs)) (0, 0) _ rfl T3.out.a0 Tryd.underlying31 rfl HS.out) rfl ?_
    exact ⟨by rw [HG.out]; rfl, T3.out.bel⟩
  · have hgot : got cs = zer := by unfold got; rw [if_neg hg]
    have hgf : good cs = false := by cases hq : good cs <;> simp_all
    rw [hgot, hgf]
    rw [hgf] at K63
    clear h hg hgot hgf
    go_enter Tryd.func14, Tryd.ntmps14
    go_wp2_with (first
      | (go_at_call 25; (with_reducible refine (K63.out _).mono ?_); rintro e w1 ⟨rfl, rfl⟩)
      | (with_reducible refine store_r1 T0 rfl 31 (.tmp 2) (.tmp 7) rfl (Arr .u8 zer) rfl rfl (size64 rfl) rfl (one_cells _) ?_; intro w3 T3))
    refine bodyPost_ret (results_row_tmp rfl _ _ w.heap.size 31 (Arr .u8 zer) (0, 0) _ rfl T3.out.a0 Tryd.underlying31 rfl (size64 rfl)) rfl ?_
    exact ⟨rfl, T3.out.bel⟩

set_option maxRecDepth 100000 in
theorem implRead (w : World) (s : ByteArray) (cs : List Nat) (h : IsTxt s cs) :
    Calls Tryd.prog 6 #[.string s] w fun e w' => e = .returned (.tuple #[.agg (Arr .u8 (got cs)), .bool (good cs)]) ∧ Below w.heap.size w w' := by
  have T0 := Lib.hid (row1_start w 23 (Arr .u8 zer))
  have K := Lib.hid fun w' => maybeParse w' s cs h
  have HS := Lib.hid (size64 (got_length cs))
  have HS2 := Lib.hid (size22 (got_length cs))
  have HZ := Lib.hid (show (Arr .u8 zer).size = (Arr .u8 (got cs)).size by rw [Arr_size, Arr_size, got_length]; rfl)
  have HZ2 := Lib.hid (show Z20.size = (Arr .u8 (got cs)).size by rw [Arr_size, got_length]; rfl)
  clear h
  obtain ⟨G, hG⟩ : ∃ G, G = got cs := ⟨_, rfl⟩
  rw [← hG] at K HS HS2 HZ HZ2 ⊢
  clear hG
  go_enter Tryd.func6, Tryd.ntmps6
  go_wp2_with (first
    | (go_at_call 14; (with_reducible refine (K.out _).mono ?_); rintro e w1 ⟨rfl, hb1⟩; have T1 := Lib.hid ((T0.out.later hb1).alloc (.cells (Arr .u8 G) 31)))
    | (with_reducible refine store_new (A := Z20) (t := 31) rfl 31 (.tmp 4) (.tmp 8) rfl (Arr .u8 G) rfl rfl HS.out HZ2.out (one_cells _) ?_)
    | (with_reducible refine wpList_load_row rfl 31 (.tmp 4) rfl _ rfl 31 _ (0, 0) _ (heap_alloc_new _ _) Tryd.underlying31 rfl HS.out ?_)
    | (with_reducible refine store_r1 T1 rfl 23 (.tmp 2) (.tmp 10) rfl (Arr .u8 G) rfl rfl HS2.out HZ.out (one_cells _) ?_; intro w3 T3))
  refine bodyPost_ret (results_row_tmp rfl _ _ w.heap.size 23 (Arr .u8 G) (0, 0) _ rfl T3.out.a0 Tryd.underlying23 rfl HS2.out) rfl ?_
  exact ⟨rfl, T3.out.bel⟩
end Go.Proofs.YtcbpnbfkjdmfgaaDoor.Hr
