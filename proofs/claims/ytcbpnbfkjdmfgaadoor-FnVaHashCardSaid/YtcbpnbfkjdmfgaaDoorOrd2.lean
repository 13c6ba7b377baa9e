/- Words for a hash as an array, sizes. No condition. -/
import Derived.Test.YtcbpnbfkjdmfgaaDoorOrd
import Derived.Test.YtcbpnbfkjdmfgaaDoorCmp
set_option linter.unusedVariables false
namespace Go.Proofs.YtcbpnbfkjdmfgaaDoor.Ord
open Go.ChangeShapes Go.WideShapes Go.ChangeAt Go.RowKit
open Go.Proofs.YtcbpnbfkjdmfgaaDoor.Dig Go.Proofs.YtcbpnbfkjdmfgaaDoor.Mem

/-- An array's box, as bytes. -/
theorem bytes_arr {w : World} {b : Nat} {xs : List Nat} {t : TypeId} (h : w.heap[b]? = some (.cells (Arr .u8 xs) t (0, 0))) : Bytes w b 0 xs := fun i hi => by
  have := cell_arr h i hi
  simpa using this

theorem info22 : (Tryd.prog.info? 23).map (·.size) = some 20 := by kernel_rfl
theorem info64 : (Tryd.prog.info? 31).map (·.size) = some 20 := by kernel_rfl
theorem Arr_size (k : IntKind) (xs : List Nat) : (Arr k xs).size = xs.length := by simp [Arr]
theorem size22 {xs : List Nat} (hx : xs.length = 20) : (Tryd.prog.info? 23).map (·.size) = some (Arr .u8 xs).size := by rw [Arr_size, hx]; exact info22
theorem size64 {xs : List Nat} (hx : xs.length = 20) : (Tryd.prog.info? 31).map (·.size) = some (Arr .u8 xs).size := by rw [Arr_size, hx]; exact info64

end Go.Proofs.YtcbpnbfkjdmfgaaDoor.Ord
