/- A hash of bytes, of a text: New, MaybeParse, Parse and the doors, walked. No condition. -/
import Derived.Test.YtcbpnbfkjdmfgaaDoorHr
import Derived.Test.YtcbpnbfkjdmfgaaDoorOrd3
import Derived.Test.YtcbpnbfkjdmfgaaDoorRws
set_option linter.unusedVariables false
namespace Go.Proofs.YtcbpnbfkjdmfgaaDoor.Hr
open Go.ChangeShapes Go.WideShapes Go.ChangeAt Go.RowKit
open Go.Proofs.YtcbpnbfkjdmfgaaDoor.Dig Go.Proofs.YtcbpnbfkjdmfgaaDoor.Mem Go.Proofs.YtcbpnbfkjdmfgaaDoor.Rb Go.Proofs.YtcbpnbfkjdmfgaaDoor.Ord

theorem size5 : (Tryd.prog.info? 5).map (·.size) = some 1 := by kernel_rfl

def trueText : Value := .iface 9 (.string ⟨#[101, 120, 112, 101, 99, 116, 101, 100, 32, 116, 114, 117, 101]⟩)

theorem newBad (w : World) (a : Option Addr) (n c : Nat) (hn : n ≠ 20) :
    Calls Tryd.prog 18 #[.slice a n c] w fun e w' => e = .panicked [{ v := trueText, recovered := false }] ∧ Below w.heap.size w w' := by
  have hn' : ¬ ((n : Int) = 20) := by omega
  go_enter Tryd.func18, Tryd.ntmps18
  go_wp2
  exact ⟨rfl, rfl, by go_grown⟩

def zer : List Nat := [0, 0, 0, 0, 0, 0, 0, 0, 0, 0, 0, 0, 0, 0, 0, 0, 0, 0, 0, 0]
theorem arr_bs (xs : List Nat) : (bs xs).toArray = Arr .u8 xs := rfl
theorem one_cells (xs : List Nat) : (Arr .u8 xs).all (·.oneCell') = true :=
  Array.all_eq_true_iff_forall_mem.2 fun v hv => by
    obtain ⟨x, _, rfl⟩ := List.mem_map.1 (show v ∈ xs.map _ by simpa [Arr] using hv)
    rfl

set_option maxRecDepth 100000 in
theorem newGood (w : World) (a : Option Addr) (c : Nat) (xs : List Nat) (h : RB w a 20 c xs) :
    Calls Tryd.prog 18 #[.slice a 20 c] w fun e w' => e = .returned (.agg (Arr .u8 xs)) ∧ Below w.heap.size w w' := by
  have hl := h.len
  have T0 := Lib.hid (rows2_start w 31 31 (Arr .u8 zer) (Arr .u8 zer))
  have HR := Lib.hid fun w' (hb : Below w.heap.size w w') => h.below hb (Nat.le_refl _)
  have HS := Lib.hid (size64 hl)
  have HO := Lib.hid (one_cells xs)
  have HZ := Lib.hid (show (Arr .u8 zer).size = (Arr .u8 xs).size by rw [Arr_size, Arr_size, hl]; rfl)
  clear h
  go_enter Tryd.func18, Tryd.ntmps18
  go_wp2_with (first
    | (with_reducible refine store_1 T0 rfl 31 (.tmp 3) (.tmp 8) rfl (Arr .u8 zer) rfl rfl (size64 rfl) rfl (one_cells _) ?_; intro w1 T1)
    | ((with_reducible refine copy_1 T1 rfl (.tmp 9) (.tmp 10) 22 22 rfl 5 Tryd.underlying22 size5 20 c rfl a rfl xs (HR.out _ T1.out.bel) rfl (by omega) ?_); intro w2 T2'; have T2 : Hid (Rows2 w w2 31 31 (Arr .u8 zer) (Arr .u8 xs)) := T2')
    | (with_reducible refine wpList_load_row rfl 31 (.tmp 3) rfl _ rfl 31 _ (0, 0) _ T2.out.a1 Tryd.underlying31 rfl HS.out ?_)
    | (with_reducible refine store_0 T2 rfl 31 (.tmp 2) (.tmp 12) rfl (Arr .u8 xs) rfl rfl HS.out HZ.out HO.out ?_; intro w3 T3))
  have g0 := T3.out.a0
  refine bodyPost_ret (results_cell_row rfl _ _ w.heap.size 31 (Arr .u8 xs) (0, 0) _ rfl g0 Tryd.underlying31 rfl HS.out) rfl ?_
  exact ⟨rfl, T3.out.bel⟩
end Go.Proofs.YtcbpnbfkjdmfgaaDoor.Hr
