/- Words for a hash as an array. No condition. -/
import Derived.Test.YtcbpnbfkjdmfgaaDoorMem
import Derived.Test.YtcbpnbfkjdmfgaaDoorDig
import Derived.Deep.QuietTactic
import Derived.BigQuiet
import Derived.Deep.Draws
set_option linter.unusedVariables false
namespace Go.Proofs.YtcbpnbfkjdmfgaaDoor.Ord
open Go.ChangeShapes Go.WideShapes Go.ChangeAt Go.RowKit
open Go.Proofs.YtcbpnbfkjdmfgaaDoor.Dig Go.Proofs.YtcbpnbfkjdmfgaaDoor.Mem

def Arr (k : IntKind) (xs : List Nat) : Array Value := (xs.map fun (x : Nat) => Value.int k (x : Int)).toArray
theorem Arr_get (k : IntKind) (xs : List Nat) (i : Nat) (h : i < xs.length) : (Arr k xs)[i]? = some (.int k ((xs.getD i 0 : Nat) : Int)) := by
  simp [Arr, List.getElem?_eq_getElem h]
theorem cell_arr {w : World} {b : Nat} {k : IntKind} {xs : List Nat} {t : TypeId} (h : w.heap[b]? = some (.cells (Arr k xs) t (0, 0))) (i : Nat) (hi : i < xs.length) :
    w.cell? ⟨b, i, none⟩ = some (.int k ((xs.getD i 0 : Nat) : Int)) := by
  simp [World.cell?, h, Arr_get k xs i hi]

end Go.Proofs.YtcbpnbfkjdmfgaaDoor.Ord
