/- The program's functions on hashes (text, less, equal, empty), walked. Condition: twenty bytes each. -/
import Derived.Test.YtcbpnbfkjdmfgaaDoorEnc
import Derived.Stop.BytesEq
set_option linter.unusedVariables false
namespace Go.Proofs.YtcbpnbfkjdmfgaaDoor.Ord
open Go.ChangeShapes Go.WideShapes Go.ChangeAt Go.RowKit
open Go.Proofs.YtcbpnbfkjdmfgaaDoor.Dig Go.Proofs.YtcbpnbfkjdmfgaaDoor.Mem Go.Proofs.YtcbpnbfkjdmfgaaDoor.Enc

/-- A hash's text. -/
def htext (xs : List Nat) : List Nat := (digs 32 32 (val 256 xs)).map chr

theorem hashString (w : World) (xs : List Nat) (hx : xs.length = 20) (bx : ∀ x ∈ xs, x < 256) :
    Calls Tryd.prog 13 #[.agg (Arr .u8 xs)] w fun e w' => e = .returned (.string (txt (htext xs))) ∧ Below w.heap.size w w' := by
  have K := encode (w.alloc (.cells (Arr .u8 xs) 31)) w.heap.size 0 20 20 xs hx (by omega) (bytes_arr (t := 31) (heap_alloc_new _ _)) (by simp) bx
  have e : (digs 32 (8 * 20 / 5) (val 256 xs / 2 ^ (8 * 20 % 5))).map chr = htext xs := by simp [htext]
  rw [e] at K
  have HK := Lib.hid K
  clear K e bx hx
  go_enter Tryd.func13, Tryd.ntmps13
  go_wp2_with (go_at_call 24; refine HK.out.mono ?_; rintro e w1 ⟨rfl, hb⟩)
  go_ret
  exact ⟨rfl, Below.trans (by go_grown) (hb.mono (by simp))⟩

theorem implText (w : World) (xs : List Nat) (hx : xs.length = 20) (bx : ∀ x ∈ xs, x < 256) :
    Calls Tryd.prog 5 #[.agg (Arr .u8 xs)] w fun e w' => e = .returned (.string (txt (htext xs))) ∧ Below w.heap.size w w' := by
  have HK := Lib.hid (hashString (w.alloc (.cells (Arr .u8 xs) 23)) xs hx bx)
  have HX := Lib.hid (size22 hx)
  clear bx hx
  go_enter Tryd.func5, Tryd.ntmps5
  go_wp2_with (first
    | (with_reducible refine wpList_load_row rfl 23 (.tmp 1) rfl _ rfl 23 _ (0, 0) _ (heap_alloc_new _ _) Tryd.underlying23 rfl HX.out ?_)
    | (go_at_call 13; refine HK.out.mono ?_; rintro e w1 ⟨rfl, hb⟩))
  go_ret
  exact ⟨rfl, Below.trans (by go_grown) (hb.mono (by simp))⟩

theorem Arr_cells {xs : List Nat} (bx : ∀ x ∈ xs, x < 256) : Arr .u8 xs = ((u8s xs).map Extern.Stop.cell).toArray := by
  unfold Arr u8s
  congr 1
  rw [List.map_map]
  refine List.map_congr_left fun x hx => ?_
  simp [Extern.Stop.cell, UInt8.toNat_ofNat', Nat.mod_eq_of_lt (bx x hx)]
theorem u8s_inj : ∀ {xs ys : List Nat}, (∀ x ∈ xs, x < 256) → (∀ y ∈ ys, y < 256) → u8s xs = u8s ys → xs = ys
  | [], [], _, _, _ => rfl
  | [], _ :: _, _, _, h => by simp [u8s] at h
  | _ :: _, [], _, _, h => by simp [u8s] at h
  | a :: x, b :: y, hx, hy, h => by
    simp only [u8s, List.map_cons, List.cons.injEq] at h
    have h1 := congrArg UInt8.toNat h.1
    rw [UInt8.toNat_ofNat', UInt8.toNat_ofNat', Nat.mod_eq_of_lt (hx a (List.mem_cons_self ..)), Nat.mod_eq_of_lt (hy b (List.mem_cons_self ..))] at h1
    rw [h1, u8s_inj (fun d hd => hx d (List.mem_cons_of_mem _ hd)) (fun d hd => hy d (List.mem_cons_of_mem _ hd)) h.2]
theorem run_eql_arr {P : Program} (w : World) (t e : TypeId) (n : Nat) (ht : P.underlying t = some (.array n e)) (he : P.underlying e = some (.int .u8)) (hsz : ∀ w, (sizeOf e).run P w = .ok 1 w)
    {xs ys : List Nat} (hx : xs.length = n) (hy : ys.length = n) (bx : ∀ x ∈ xs, x < 256) (by_ : ∀ y ∈ ys, y < 256) :
    (binOp .eql t (.agg (Arr .u8 xs)) (.agg (Arr .u8 ys))).run P w = .ok (.bool (xs == ys)) w := by
  rw [Arr_cells bx, Arr_cells by_, run_eql_bytes w t e n ht he hsz _ _ (by simp [u8s, hx]) (by simp [u8s, hy])]
  congr 2
  rw [Bool.eq_iff_iff]
  simp only [beq_iff_eq]
  exact ⟨fun h => u8s_inj bx by_ h, fun h => by rw [h]⟩

theorem size5 (w : World) : (sizeOf 5).run Tryd.prog w = .ok 1 w := by kernel_rfl
def nought : List Nat := List.replicate 20 0

theorem run_equalIn_arr {P : Program} (w : World) (d : Nat) (t e : TypeId) (n : Nat) (ht : P.underlying t = some (.array n e)) (he : P.underlying e = some (.int .u8)) (hsz : ∀ w, (sizeOf e).run P w = .ok 1 w)
    {xs ys : List Nat} (hx : xs.length = n) (hy : ys.length = n) (bx : ∀ x ∈ xs, x < 256) (by_ : ∀ y ∈ ys, y < 256) :
    (Op.equalIn (d + 2) t (.agg (Arr .u8 xs)) (.agg (Arr .u8 ys))).run P w = .ok (xs == ys) w := by
  rw [Arr_cells bx, Arr_cells by_, run_equalIn_bytes w d t e n ht he hsz _ _ (by simp [u8s, hx]) (by simp [u8s, hy])]
  congr 1
  rw [Bool.eq_iff_iff]
  simp only [beq_iff_eq]
  exact ⟨fun h => u8s_inj bx by_ h, fun h => by rw [h]⟩

end Go.Proofs.YtcbpnbfkjdmfgaaDoor.Ord
