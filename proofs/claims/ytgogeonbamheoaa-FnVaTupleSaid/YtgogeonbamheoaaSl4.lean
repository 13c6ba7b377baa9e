/- vaSame, and the reading of two bytes as a number, walked. No condition. -/
import Derived.Test.YtgogeonbamheoaaRb
import Derived.WalkLawsBesides
set_option linter.unusedVariables false
namespace Go.Proofs.Ytgogeonbamheoaa.Sl
open Go.ChangeShapes Go.WideShapes Go.ChangeAt Go.RowKit
open Go.Proofs.Ytgogeonbamheoaa.Dig Go.Proofs.Ytgogeonbamheoaa.Mem Go.Proofs.Ytgogeonbamheoaa.Rb

theorem vaSame (w : World) (a b : Option Addr) (n c m d : Nat) (xs ys : List Nat) (hx : RB w a n c xs) (hy : RB w b m d ys) :
    Calls Try.prog 7 #[.slice a n c, .slice b m d] w fun e w' => e = .returned (.bool (xs == ys)) ∧ w = w' := by
  have h1 := run_text (P := Try.prog) (dst := 9) Try.underlying22 Try.underlying5 Try.underlying9 hx
  have h2 := run_text (P := Try.prog) (dst := 9) Try.underlying22 Try.underlying5 Try.underlying9 hy
  have he := txt_eq hx.byte hy.byte
  clear hx hy
  go_enter Try.func7, Try.ntmps7
  go_wp2
  go_ret
  exact ⟨rfl, rfl⟩

theorem expectSize (w : World) (a : Option Addr) (c : Nat) :
    Calls Try.prog 37 #[.slice a 2 c, .int .u16 2] w fun e w' => e = .returned (.tuple #[]) ∧ w = w' := by
  go_enter Try.func37, Try.ntmps37
  go_wp2
  go_end0
  exact ⟨rfl, rfl⟩

theorem or_u16 (x y : Nat) (bx : x < 256) (by_ : y < 256) : bits .or .u16 ((x : Nat) : Int) (((y : Nat) : Int) * 256) = ((x + 256 * y : Nat) : Int) := by
  have e : ((y : Nat) : Int) * 256 = ((y * 256 : Nat) : Int) := by omega
  rw [e, u16_or_nat _ _ (by omega) (by omega), Nat.or_comm]
  rw [show y * 256 = 2 ^ 8 * y by omega, ← Nat.two_pow_add_eq_or_of_lt (by omega : x < 2 ^ 8)]
  congr 1
  omega
theorem uint16 (w : World) (b o c x y : Nat) (hx : w.cell? ⟨b, o, none⟩ = some (.int .u8 (x : Int))) (hy : w.cell? ⟨b, o + 1, none⟩ = some (.int .u8 (y : Int))) (bx : x < 256) (by_ : y < 256) :
    Calls Try.prog 39 #[.agg #[], .slice (some ⟨b, o, none⟩) 2 c] w fun e w' => e = .returned (.int .u16 ((x + 256 * y : Nat) : Int)) ∧ Below w.heap.size w w' := by
  have hx1 : ∀ O, (w.alloc O).cell? ⟨b, o, none⟩ = some (.int .u8 (x : Int)) := fun O => by rw [World.cell?_alloc_lt w O _ (lt_of_cell hx), hx]
  have hy1 : ∀ O, (w.alloc O).cell? ⟨b, o + 1, none⟩ = some (.int .u8 (y : Int)) := fun O => by rw [World.cell?_alloc_lt w O _ (lt_of_cell hy), hy]
  clear hx hy
  go_enter Try.func39, Try.ntmps39
  go_wp2
  go_quiet (fail)
  go_wp2
  go_ret
  refine ⟨?_, bdn (by go_grown) _⟩
  rw [← or_u16 x y bx by_]
  rfl

theorem elem27 : Try.prog.elem 22 = 5 := by kernel_rfl
theorem size1 (w : World) : (sizeOf 5).run Try.prog w = .ok 1 w := by kernel_rfl

theorem readUint16 (w : World) (b o c x y : Nat) (hx : w.cell? ⟨b, o, none⟩ = some (.int .u8 (x : Int))) (hy : w.cell? ⟨b, o + 1, none⟩ = some (.int .u8 (y : Int))) (bx : x < 256) (by_ : y < 256) :
    Calls Try.prog 32 #[.slice (some ⟨b, o, none⟩) 2 c] w fun e w' => e = .returned (.int .u16 ((x + 256 * y : Nat) : Int)) ∧ Below w.heap.size w w' := by
  have K := Lib.hid (uint16 w b o c x y hx hy bx by_)
  clear hx hy
  go_enter Try.func32, Try.ntmps32
  go_wp2_with (first
    | (go_at_call 37; refine (expectSize _ _ _).mono ?_; rintro e w1 ⟨rfl, rfl⟩)
    | (go_at_call 39; refine K.out.mono ?_; rintro e w1 ⟨rfl, hb⟩))
  go_ret
  exact ⟨rfl, hb⟩

end Go.Proofs.Ytgogeonbamheoaa.Sl
