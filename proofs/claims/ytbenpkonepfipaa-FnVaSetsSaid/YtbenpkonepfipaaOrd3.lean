/- The program's functions on hashes (text, less, equal, empty), walked. Condition: twenty bytes each. -/
import Derived.Test.YtbenpkonepfipaaEnc
import Derived.Stop.BytesEq
set_option linter.unusedVariables false
namespace Go.Proofs.Ytbenpkonepfipaa.Ord
open Go.ChangeShapes Go.WideShapes Go.ChangeAt Go.RowKit
open Go.Proofs.Ytbenpkonepfipaa.Dig Go.Proofs.Ytbenpkonepfipaa.Mem Go.Proofs.Ytbenpkonepfipaa.Enc

/-- A hash's text. -/
def htext (xs : List Nat) : List Nat := (digs 32 32 (val 256 xs)).map chr

theorem hashString (w : World) (xs : List Nat) (hx : xs.length = 20) (bx : ∀ x ∈ xs, x < 256) :
    Calls Try.prog 30 #[.agg (Arr .u8 xs)] w fun e w' => e = .returned (.string (txt (htext xs))) ∧ Below w.heap.size w w' := by
  have K := encode (w.alloc (.cells (Arr .u8 xs) 64)) w.heap.size 0 20 20 xs hx (by omega) (bytes_arr (t := 64) (heap_alloc_new _ _)) (by simp) bx
  have e : (digs 32 (8 * 20 / 5) (val 256 xs / 2 ^ (8 * 20 % 5))).map chr = htext xs := by simp [htext]
  rw [e] at K
  have HK := Lib.hid K
  clear K e bx hx
  go_enter Try.func30, Try.ntmps30
  go_wp2_with (go_at_call 62; refine HK.out.mono ?_; rintro e w1 ⟨rfl, hb⟩)
  go_ret
  exact ⟨rfl, Below.trans (by go_grown) (hb.mono (by simp))⟩

theorem implText (w : World) (xs : List Nat) (hx : xs.length = 20) (bx : ∀ x ∈ xs, x < 256) :
    Calls Try.prog 10 #[.agg (Arr .u8 xs)] w fun e w' => e = .returned (.string (txt (htext xs))) ∧ Below w.heap.size w w' := by
  have HK := Lib.hid (hashString (w.alloc (.cells (Arr .u8 xs) 22)) xs hx bx)
  have HX := Lib.hid (size22 hx)
  clear bx hx
  go_enter Try.func10, Try.ntmps10
  go_wp2_with (first
    | (with_reducible refine wpList_load_row rfl 22 (.tmp 1) rfl _ rfl 22 _ (0, 0) _ (heap_alloc_new _ _) Try.underlying22 rfl HX.out ?_)
    | (go_at_call 30; refine HK.out.mono ?_; rintro e w1 ⟨rfl, hb⟩))
  go_ret
  exact ⟨rfl, Below.trans (by go_grown) (hb.mono (by simp))⟩

theorem hashLess (w : World) (xs ys : List Nat) (hx : xs.length = 20) (hy : ys.length = 20) (bx : ∀ x ∈ xs, x < 256) (by_ : ∀ y ∈ ys, y < 256) :
    Calls Try.prog 31 #[.agg (Arr .u8 xs), .agg (Arr .u8 ys)] w fun e w' => e = .returned (.bool (decide (ord xs ys < 0))) ∧ Below w.heap.size w w' := by
  have K := hashCmp ((w.alloc (.cells (Arr .u8 xs) 64)).alloc (.cells (Arr .u8 ys) 64)) xs ys hx hy bx by_
  have HK := Lib.hid K
  have HX := Lib.hid (size64 hx)
  have HY := Lib.hid (size64 hy)
  clear K bx by_ hx hy
  go_enter Try.func31, Try.ntmps31
  go_wp2_with (first
    | (with_reducible refine wpList_load_row rfl 64 (.tmp 2) rfl _ rfl 64 _ (0, 0) _ (heap_old2 _ _ _) Try.underlying64 rfl HX.out ?_)
    | (with_reducible refine wpList_load_row rfl 64 (.tmp 3) rfl _ rfl 64 _ (0, 0) _ (heap_new2 _ _ _) Try.underlying64 rfl HY.out ?_)
    | (go_at_call 29; refine HK.out.mono ?_; rintro e w1 ⟨rfl, hb⟩))
  go_ret
  exact ⟨rfl, Below.trans (by go_grown) (hb.mono (by simp; omega))⟩

theorem implLess (w : World) (xs ys : List Nat) (hx : xs.length = 20) (hy : ys.length = 20) (bx : ∀ x ∈ xs, x < 256) (by_ : ∀ y ∈ ys, y < 256) :
    Calls Try.prog 11 #[.agg (Arr .u8 xs), .agg (Arr .u8 ys)] w fun e w' => e = .returned (.bool (decide (ord xs ys < 0))) ∧ Below w.heap.size w w' := by
  have K := hashLess ((w.alloc (.cells (Arr .u8 xs) 22)).alloc (.cells (Arr .u8 ys) 22)) xs ys hx hy bx by_
  have HK := Lib.hid K
  have HX := Lib.hid (size22 hx)
  have HY := Lib.hid (size22 hy)
  clear K bx by_ hx hy
  go_enter Try.func11, Try.ntmps11
  go_wp2_with (first
    | (with_reducible refine wpList_load_row rfl 22 (.tmp 2) rfl _ rfl 22 _ (0, 0) _ (heap_old2 _ _ _) Try.underlying22 rfl HX.out ?_)
    | (with_reducible refine wpList_load_row rfl 22 (.tmp 3) rfl _ rfl 22 _ (0, 0) _ (heap_new2 _ _ _) Try.underlying22 rfl HY.out ?_)
    | (go_at_call 31; refine HK.out.mono ?_; rintro e w1 ⟨rfl, hb⟩))
  go_ret
  exact ⟨rfl, Below.trans (by go_grown) (hb.mono (by simp; omega))⟩

theorem hashEqual (w : World) (xs ys : List Nat) (hx : xs.length = 20) (hy : ys.length = 20) (bx : ∀ x ∈ xs, x < 256) (by_ : ∀ y ∈ ys, y < 256) :
    Calls Try.prog 32 #[.agg (Arr .u8 xs), .agg (Arr .u8 ys)] w fun e w' => e = .returned (.bool (ord xs ys == 0)) ∧ Below w.heap.size w w' := by
  have K := hashCmp ((w.alloc (.cells (Arr .u8 xs) 64)).alloc (.cells (Arr .u8 ys) 64)) xs ys hx hy bx by_
  have HK := Lib.hid K
  have HX := Lib.hid (size64 hx)
  have HY := Lib.hid (size64 hy)
  clear K bx by_ hx hy
  go_enter Try.func32, Try.ntmps32
  go_wp2_with (first
    | (with_reducible refine wpList_load_row rfl 64 (.tmp 2) rfl _ rfl 64 _ (0, 0) _ (heap_old2 _ _ _) Try.underlying64 rfl HX.out ?_)
    | (with_reducible refine wpList_load_row rfl 64 (.tmp 3) rfl _ rfl 64 _ (0, 0) _ (heap_new2 _ _ _) Try.underlying64 rfl HY.out ?_)
    | (go_at_call 29; refine HK.out.mono ?_; rintro e w1 ⟨rfl, hb⟩))
  go_ret
  exact ⟨rfl, Below.trans (by go_grown) (hb.mono (by simp; omega))⟩

theorem implEqual (w : World) (xs ys : List Nat) (hx : xs.length = 20) (hy : ys.length = 20) (bx : ∀ x ∈ xs, x < 256) (by_ : ∀ y ∈ ys, y < 256) :
    Calls Try.prog 12 #[.agg (Arr .u8 xs), .agg (Arr .u8 ys)] w fun e w' => e = .returned (.bool (ord xs ys == 0)) ∧ Below w.heap.size w w' := by
  have K := hashEqual ((w.alloc (.cells (Arr .u8 xs) 22)).alloc (.cells (Arr .u8 ys) 22)) xs ys hx hy bx by_
  have HK := Lib.hid K
  have HX := Lib.hid (size22 hx)
  have HY := Lib.hid (size22 hy)
  clear K bx by_ hx hy
  go_enter Try.func12, Try.ntmps12
  go_wp2_with (first
    | (with_reducible refine wpList_load_row rfl 22 (.tmp 2) rfl _ rfl 22 _ (0, 0) _ (heap_old2 _ _ _) Try.underlying22 rfl HX.out ?_)
    | (with_reducible refine wpList_load_row rfl 22 (.tmp 3) rfl _ rfl 22 _ (0, 0) _ (heap_new2 _ _ _) Try.underlying22 rfl HY.out ?_)
    | (go_at_call 32; refine HK.out.mono ?_; rintro e w1 ⟨rfl, hb⟩))
  go_ret
  exact ⟨rfl, Below.trans (by go_grown) (hb.mono (by simp; omega))⟩

theorem Arr_cells {xs : List Nat} (bx : ∀ x ∈ xs, x < 256) : Arr .u8 xs = ((u8s xs).map Extern.Stop.cell).toArray := by
  unfold Arr u8s
  congr 1
  rw [List.map_map]
  refine List.map_congr_left fun x hx => ?_
  simp [Extern.Stop.cell, UInt8.toNat_ofNat', Nat.mod_eq_of_lt (bx x hx)]
theorem u8s_inj : ∀ {xs ys : List Nat}, (∀ x ∈ xs, x < 256) → (∀ y ∈ ys, y < 256) → u8s xs = u8s ys → xs = ys
  | [], [], _, _, _ => rfl
  | [], _ :: _, _, _, h => by simp [u8s] at h
  | _ :: _, [], _, _, h => by simp [u8s] at h
  | a :: x, b :: y, hx, hy, h => by
    simp only [u8s, List.map_cons, List.cons.injEq] at h
    have h1 := congrArg UInt8.toNat h.1
    rw [UInt8.toNat_ofNat', UInt8.toNat_ofNat', Nat.mod_eq_of_lt (hx a (List.mem_cons_self ..)), Nat.mod_eq_of_lt (hy b (List.mem_cons_self ..))] at h1
    rw [h1, u8s_inj (fun d hd => hx d (List.mem_cons_of_mem _ hd)) (fun d hd => hy d (List.mem_cons_of_mem _ hd)) h.2]
theorem run_eql_arr {P : Program} (w : World) (t e : TypeId) (n : Nat) (ht : P.underlying t = some (.array n e)) (he : P.underlying e = some (.int .u8)) (hsz : ∀ w, (sizeOf e).run P w = .ok 1 w)
    {xs ys : List Nat} (hx : xs.length = n) (hy : ys.length = n) (bx : ∀ x ∈ xs, x < 256) (by_ : ∀ y ∈ ys, y < 256) :
    (binOp .eql t (.agg (Arr .u8 xs)) (.agg (Arr .u8 ys))).run P w = .ok (.bool (xs == ys)) w := by
  rw [Arr_cells bx, Arr_cells by_, run_eql_bytes w t e n ht he hsz _ _ (by simp [u8s, hx]) (by simp [u8s, hy])]
  congr 2
  rw [Bool.eq_iff_iff]
  simp only [beq_iff_eq]
  exact ⟨fun h => u8s_inj bx by_ h, fun h => by rw [h]⟩

theorem size5 (w : World) : (sizeOf 5).run Try.prog w = .ok 1 w := by kernel_rfl
def nought : List Nat := List.replicate 20 0

theorem run_equalIn_arr {P : Program} (w : World) (d : Nat) (t e : TypeId) (n : Nat) (ht : P.underlying t = some (.array n e)) (he : P.underlying e = some (.int .u8)) (hsz : ∀ w, (sizeOf e).run P w = .ok 1 w)
    {xs ys : List Nat} (hx : xs.length = n) (hy : ys.length = n) (bx : ∀ x ∈ xs, x < 256) (by_ : ∀ y ∈ ys, y < 256) :
    (Op.equalIn (d + 2) t (.agg (Arr .u8 xs)) (.agg (Arr .u8 ys))).run P w = .ok (xs == ys) w := by
  rw [Arr_cells bx, Arr_cells by_, run_equalIn_bytes w d t e n ht he hsz _ _ (by simp [u8s, hx]) (by simp [u8s, hy])]
  congr 1
  rw [Bool.eq_iff_iff]
  simp only [beq_iff_eq]
  exact ⟨fun h => u8s_inj bx by_ h, fun h => by rw [h]⟩

/-- '==' of a hash and the empty one, as the walk comes to it. -/
theorem eq_nought (t : TypeId) (ht : Try.prog.underlying t = some (.array 20 5)) {xs : List Nat} (hx : xs.length = 20) (bx : ∀ x ∈ xs, x < 256) :
    ∀ w, (Op.equalIn 10000 t (.agg (Arr .u8 xs)) (.agg #[.int .u8 0, .int .u8 0, .int .u8 0, .int .u8 0, .int .u8 0, .int .u8 0, .int .u8 0, .int .u8 0, .int .u8 0, .int .u8 0, .int .u8 0, .int .u8 0, .int .u8 0, .int .u8 0, .int .u8 0, .int .u8 0, .int .u8 0, .int .u8 0, .int .u8 0, .int .u8 0])).run Try.prog w = .ok (xs == nought) w := fun w =>
  run_equalIn_arr w 9998 t 5 20 ht Try.underlying5 size5 hx (ys := nought) rfl bx (by decide)

theorem hashIsEmpty (w : World) (xs : List Nat) (hx : xs.length = 20) (bx : ∀ x ∈ xs, x < 256) :
    Calls Try.prog 33 #[.agg (Arr .u8 xs)] w fun e w' => e = .returned (.bool (xs == nought)) ∧ Below w.heap.size w w' := by
  have HX := Lib.hid (size64 hx)
  have he := eq_nought 64 Try.underlying64 hx bx
  clear bx hx
  go_enter Try.func33, Try.ntmps33
  go_wp2_with (first
    | (with_reducible refine wpList_load_row rfl 64 (.tmp 1) rfl _ rfl 64 _ (0, 0) _ (heap_alloc_new _ _) Try.underlying64 rfl HX.out ?_))
  go_ret
  exact ⟨rfl, by go_grown⟩

theorem implEmpty (w : World) (xs : List Nat) (hx : xs.length = 20) (bx : ∀ x ∈ xs, x < 256) :
    Calls Try.prog 13 #[.agg (Arr .u8 xs)] w fun e w' => e = .returned (.bool (xs == nought)) ∧ Below w.heap.size w w' := by
  have HK := Lib.hid (hashIsEmpty (w.alloc (.cells (Arr .u8 xs) 22)) xs hx bx)
  have HX := Lib.hid (size22 hx)
  clear bx hx
  go_enter Try.func13, Try.ntmps13
  go_wp2_with (first
    | (with_reducible refine wpList_load_row rfl 22 (.tmp 1) rfl _ rfl 22 _ (0, 0) _ (heap_alloc_new _ _) Try.underlying22 rfl HX.out ?_)
    | (go_at_call 33; refine HK.out.mono ?_; rintro e w1 ⟨rfl, hb⟩))
  go_ret
  exact ⟨rfl, Below.trans (by go_grown) (hb.mono (by simp))⟩
end Go.Proofs.Ytbenpkonepfipaa.Ord
