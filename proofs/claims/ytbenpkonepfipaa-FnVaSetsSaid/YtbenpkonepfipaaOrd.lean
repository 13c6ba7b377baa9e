/- The reference's order of two hashes, walked: it is the order of their bytes. Condition: twenty bytes each. -/
import Derived.Test.YtbenpkonepfipaaMem
import Derived.Test.YtbenpkonepfipaaDig
import Derived.Deep.QuietTactic
import Derived.BigQuiet
import Derived.Deep.Draws
set_option linter.unusedVariables false
namespace Go.Proofs.Ytbenpkonepfipaa.Ord
open Go.ChangeShapes Go.WideShapes Go.ChangeAt Go.RowKit
open Go.Proofs.Ytbenpkonepfipaa.Dig Go.Proofs.Ytbenpkonepfipaa.Mem

def Arr (k : IntKind) (xs : List Nat) : Array Value := (xs.map fun (x : Nat) => Value.int k (x : Int)).toArray
theorem Arr_get (k : IntKind) (xs : List Nat) (i : Nat) (h : i < xs.length) : (Arr k xs)[i]? = some (.int k ((xs.getD i 0 : Nat) : Int)) := by
  simp [Arr, List.getElem?_eq_getElem h]
theorem cell_arr {w : World} {b : Nat} {k : IntKind} {xs : List Nat} {t : TypeId} (h : w.heap[b]? = some (.cells (Arr k xs) t (0, 0))) (i : Nat) (hi : i < xs.length) :
    w.cell? ⟨b, i, none⟩ = some (.int k ((xs.getD i 0 : Nat) : Int)) := by
  simp [World.cell?, h, Arr_get k xs i hi]

theorem ord_drop {xs ys : List Nat} {k : Nat} (hx : k < xs.length) (hy : k < ys.length) :
    ord (xs.drop k) (ys.drop k) = if xs.getD k 0 < ys.getD k 0 then -1 else if ys.getD k 0 < xs.getD k 0 then 1 else ord (xs.drop (k + 1)) (ys.drop (k + 1)) := by
  rw [List.drop_eq_getElem_cons hx, List.drop_eq_getElem_cons hy, ord]
  simp [List.getElem?_eq_getElem hx, List.getElem?_eq_getElem hy]

set_option maxHeartbeats 400000 in
theorem hashOrder (xs ys : List Nat) (hx : xs.length = 20) (hy : ys.length = 20) (w : World) :
    Calls Try.prog 8 #[.agg (Arr .u8 xs), .agg (Arr .u8 ys)] w fun e w' => e = .returned (.int .i64 (ord xs ys)) ∧ Below w.heap.size w w' := by
  have HX : Hid (xs.length = 20) := hx
  have HY : Hid (ys.length = 20) := hy
  clear hx hy
  go_enter Try.func8, Try.ntmps8
  go_wp2
  go_loopw [5] (fun i wr => ∃ k : Nat, k ≤ 20 ∧ i = .int .i64 k ∧ wr.heap[w.heap.size]? = some (.cells (Arr .u8 xs) 22 (0, 0)) ∧ wr.heap[w.heap.size + 1]? = some (.cells (Arr .u8 ys) 22 (0, 0)) ∧
    Below w.heap.size w wr ∧ ord xs ys = ord (xs.drop k) (ys.drop k)) (fun i _ => 20 - (intOf i).toNat)
  case atStart =>
    exact ⟨0, by omega, rfl, heap_old2 _ _ _, heap_new2 _ _ _, by go_grown, by simp⟩
  case round =>
    obtain ⟨k, hk, rfl, bx, by_, hb, hord⟩ := hrel
    have HO := Lib.hid hord
    clear hord
    have hcx : k < 20 → wr.cell? ⟨w.heap.size, k, none⟩ = some (.int .u8 ((xs.getD k 0 : Nat) : Int)) := fun h => cell_arr bx k (by rw [HX.out]; exact h)
    have hcy : k < 20 → wr.cell? ⟨w.heap.size + 1, k, none⟩ = some (.int .u8 ((ys.getD k 0 : Nat) : Int)) := fun h => cell_arr by_ k (by rw [HY.out]; exact h)
    obtain ⟨a, ha⟩ : ∃ a, a = xs.getD k 0 := ⟨_, rfl⟩
    obtain ⟨b, hb'⟩ : ∃ b, b = ys.getD k 0 := ⟨_, rfl⟩
    rw [← ha] at hcx
    rw [← hb'] at hcy
    have HA := Lib.hid ha
    have HB := Lib.hid hb'
    have HBX := Lib.hid bx
    have HBY := Lib.hid by_
    clear ha hb' bx by_
    by_cases hlt : k < 20
    · have gx := hcx hlt
      have gy := hcy hlt
      have step := Lib.hid (ord_drop (xs := xs) (ys := ys) (k := k) (by rw [HX.out]; exact hlt) (by rw [HY.out]; exact hlt))
      clear hcx hcy
      go_wp2
      go_quiet (fail)
      go_wp2
      · go_ret
        exact ⟨by rw [HO.out, step.out, if_pos (by rw [← HA.out, ← HB.out]; omega)]; rfl, bdn hb _⟩
      · go_quiet (fail)
        go_wp2
        · go_ret
          exact ⟨by rw [HO.out, step.out, if_neg (by rw [← HA.out, ← HB.out]; omega), if_pos (by rw [← HA.out, ← HB.out]; omega)]; rfl, bdn (bdn hb _) _⟩
        · go_roundw
          case rel => exact ⟨k + 1, by omega, by go_num, HBX.out, HBY.out, bdn hb _, by rw [HO.out, step.out, if_neg (by rw [← HA.out, ← HB.out]; omega), if_neg (by rw [← HA.out, ← HB.out]; omega)]⟩
          case measure => simp [intOf]; omega
    · clear hcx hcy
      go_wp2
      go_ret
      refine ⟨?_, hb⟩
      rw [HO.out, List.drop_of_length_le (by rw [HX.out]; omega), List.drop_of_length_le (by rw [HY.out]; omega)]
      rfl
end Go.Proofs.Ytbenpkonepfipaa.Ord
