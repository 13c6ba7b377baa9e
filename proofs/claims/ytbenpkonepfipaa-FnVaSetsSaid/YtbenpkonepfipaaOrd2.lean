/- bytes.Compare and the program's comparison of two hashes, walked: the order of their bytes. Condition: twenty bytes each. -/
import Derived.Test.YtbenpkonepfipaaOrd
import Derived.Test.YtbenpkonepfipaaCmp
set_option linter.unusedVariables false
namespace Go.Proofs.Ytbenpkonepfipaa.Ord
open Go.ChangeShapes Go.WideShapes Go.ChangeAt Go.RowKit
open Go.Proofs.Ytbenpkonepfipaa.Dig Go.Proofs.Ytbenpkonepfipaa.Mem

theorem bytesCompare (w : World) (b o n c b' o' n' c' : Nat) (xs ys : List Nat) (hn : xs.length = n) (h : Bytes w b o xs) (hn' : ys.length = n') (h' : Bytes w b' o' ys)
    (bx : ∀ x ∈ xs, x < 256) (by_ : ∀ y ∈ ys, y < 256) :
    Calls Try.prog 61 #[.slice (some ⟨b, o, none⟩) n c, .slice (some ⟨b', o', none⟩) n' c'] w fun e w' => e = .returned (.int .i64 (ord xs ys)) ∧ w = w' := by
  have hr := run_compare (P := Try.prog) (c := c) (c' := c') hn h hn' h' bx by_
  have HR := Lib.hid hr
  clear hr h h' bx by_ hn hn'
  go_enter Try.func61, Try.ntmps61
  go_wp2
  rw [run_callFunc_extern Try.func70 (by kernel_rfl) (by kernel_rfl) (by kernel_rfl) (e := Extern.BytealgCompare.compare) (by kernel_rfl), HR.out]
  simp only [Result.andThen]
  rw [Oper.upon_value]
  go_wp2
  go_ret
  exact ⟨rfl, rfl⟩

/-- An array's box, as bytes. -/
theorem bytes_arr {w : World} {b : Nat} {xs : List Nat} {t : TypeId} (h : w.heap[b]? = some (.cells (Arr .u8 xs) t (0, 0))) : Bytes w b 0 xs := fun i hi => by
  have := cell_arr h i hi
  simpa using this

theorem hashCmp (w : World) (xs ys : List Nat) (hx : xs.length = 20) (hy : ys.length = 20) (bx : ∀ x ∈ xs, x < 256) (by_ : ∀ y ∈ ys, y < 256) :
    Calls Try.prog 29 #[.agg (Arr .u8 xs), .agg (Arr .u8 ys)] w fun e w' => e = .returned (.int .i64 (ord xs ys)) ∧ Below w.heap.size w w' := by
  have K := fun n => bytesCompare (((w.alloc (.cells (Arr .u8 xs) 64)).alloc (.cells (Arr .u8 ys) 64)).drewN n) w.heap.size 0 20 20 (w.heap.size + 1) 0 20 20 xs ys hx (bytes_arr (t := 64) (heap_old2 _ _ _)) hy (bytes_arr (t := 64) (heap_new2 _ _ _)) bx by_
  have HK := Lib.hid K
  clear K bx by_ hx hy
  go_enter Try.func29, Try.ntmps29
  go_wp2
  go_quiet ((go_at_call 61; exact quiet_left (HK.out _)))
  go_wp2
  go_ret
  exact ⟨rfl, bdn (by go_grown) _⟩

theorem info22 : (Try.prog.info? 22).map (·.size) = some 20 := by kernel_rfl
theorem info64 : (Try.prog.info? 64).map (·.size) = some 20 := by kernel_rfl
theorem Arr_size (k : IntKind) (xs : List Nat) : (Arr k xs).size = xs.length := by simp [Arr]
theorem size22 {xs : List Nat} (hx : xs.length = 20) : (Try.prog.info? 22).map (·.size) = some (Arr .u8 xs).size := by rw [Arr_size, hx]; exact info22
theorem size64 {xs : List Nat} (hx : xs.length = 20) : (Try.prog.info? 64).map (·.size) = some (Arr .u8 xs).size := by rw [Arr_size, hx]; exact info64

theorem implCmp (w : World) (xs ys : List Nat) (hx : xs.length = 20) (hy : ys.length = 20) (bx : ∀ x ∈ xs, x < 256) (by_ : ∀ y ∈ ys, y < 256) :
    Calls Try.prog 9 #[.agg (Arr .u8 xs), .agg (Arr .u8 ys)] w fun e w' => e = .returned (.int .i64 (ord xs ys)) ∧ Below w.heap.size w w' := by
  have K := hashCmp ((w.alloc (.cells (Arr .u8 xs) 22)).alloc (.cells (Arr .u8 ys) 22)) xs ys hx hy bx by_
  have HK := Lib.hid K
  have HX := Lib.hid (size22 hx)
  have HY := Lib.hid (size22 hy)
  clear K bx by_ hx hy
  go_enter Try.func9, Try.ntmps9
  go_wp2_with (first
    | (with_reducible refine wpList_load_row rfl 22 (.tmp 2) rfl _ rfl 22 _ (0, 0) _ (heap_old2 _ _ _) Try.underlying22 rfl HX.out ?_)
    | (with_reducible refine wpList_load_row rfl 22 (.tmp 3) rfl _ rfl 22 _ (0, 0) _ (heap_new2 _ _ _) Try.underlying22 rfl HY.out ?_)
    | (go_at_call 29; refine HK.out.mono ?_; rintro e w1 ⟨rfl, hb⟩))
  go_ret
  refine ⟨rfl, ?_⟩
  exact Below.trans (by go_grown) (hb.mono (by simp; omega))
end Go.Proofs.Ytbenpkonepfipaa.Ord
