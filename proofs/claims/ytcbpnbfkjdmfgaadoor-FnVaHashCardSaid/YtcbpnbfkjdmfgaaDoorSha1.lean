/- Words of 64 bits turned to the right, by the specification and by the library, walked. Condition: the turns that SHA-512 wants. -/
import Derived.Test.YtcbpnbfkjdmfgaaDoorRws
set_option linter.unusedVariables false
namespace Go.Proofs.YtcbpnbfkjdmfgaaDoor.Sha
open Go.ChangeShapes Go.WideShapes Go.ChangeAt Go.RowKit
open Go.Proofs.YtcbpnbfkjdmfgaaDoor.Dig Go.Proofs.YtcbpnbfkjdmfgaaDoor.Mem Go.Proofs.YtcbpnbfkjdmfgaaDoor.Rb

/-- A word turned to the right. -/
def rot (n : Nat) (x : Int) : Int := bits .or .u64 (x / 2 ^ n) (IntKind.u64.wrap (x * 2 ^ (64 - n)))
theorem or_comm64 (a b : Int) : bits .or .u64 a b = bits .or .u64 b a := by
  unfold bits
  simp [BitVec.or_comm]

theorem turned1 (w : World) (x : Int) :
    Calls Tryd.prog 31 #[.int .u64 x, .int .i64 1] w fun e w' => e = .returned (.int .u64 (rot 1 x)) ∧ ∃ m, w' = w.drewN m := by
  go_enter Tryd.func31, Tryd.ntmps31
  go_wp2
  go_quiet (fail)
  go_wp2
  go_ret
  exact ⟨rfl, _, rfl⟩
theorem rotl1 (w : World) (x : Int) :
    Calls Tryd.prog 37 #[.int .u64 x, .int .i64 (-1)] w fun e w' => e = .returned (.int .u64 (rot 1 x)) ∧ w' = w := by
  have e : bits .and .u64 (IntKind.u64.wrap (-1)) 63 = 63 := by kernel_rfl
  have hr : rot 1 x = bits .or .u64 (x * 9223372036854775808 % 18446744073709551616) (x / 2) := by
    rw [or_comm64]
    unfold rot
    rw [IntKind.wrap_u64]
    rfl
  go_enter Tryd.func37, Tryd.ntmps37
  go_wp2
  go_ret
  exact ⟨by rw [hr]; rfl, rfl⟩

theorem turned8 (w : World) (x : Int) :
    Calls Tryd.prog 31 #[.int .u64 x, .int .i64 8] w fun e w' => e = .returned (.int .u64 (rot 8 x)) ∧ ∃ m, w' = w.drewN m := by
  go_enter Tryd.func31, Tryd.ntmps31
  go_wp2
  go_quiet (fail)
  go_wp2
  go_ret
  exact ⟨rfl, _, rfl⟩
theorem rotl8 (w : World) (x : Int) :
    Calls Tryd.prog 37 #[.int .u64 x, .int .i64 (-8)] w fun e w' => e = .returned (.int .u64 (rot 8 x)) ∧ w' = w := by
  have e : bits .and .u64 (IntKind.u64.wrap (-8)) 63 = 56 := by kernel_rfl
  have hr : rot 8 x = bits .or .u64 (x * 72057594037927936 % 18446744073709551616) (x / 256) := by
    rw [or_comm64]
    unfold rot
    rw [IntKind.wrap_u64]
    rfl
  go_enter Tryd.func37, Tryd.ntmps37
  go_wp2
  go_ret
  exact ⟨by rw [hr]; rfl, rfl⟩

theorem turned14 (w : World) (x : Int) :
    Calls Tryd.prog 31 #[.int .u64 x, .int .i64 14] w fun e w' => e = .returned (.int .u64 (rot 14 x)) ∧ ∃ m, w' = w.drewN m := by
  go_enter Tryd.func31, Tryd.ntmps31
  go_wp2
  go_quiet (fail)
  go_wp2
  go_ret
  exact ⟨rfl, _, rfl⟩
theorem rotl14 (w : World) (x : Int) :
    Calls Tryd.prog 37 #[.int .u64 x, .int .i64 (-14)] w fun e w' => e = .returned (.int .u64 (rot 14 x)) ∧ w' = w := by
  have e : bits .and .u64 (IntKind.u64.wrap (-14)) 63 = 50 := by kernel_rfl
  have hr : rot 14 x = bits .or .u64 (x * 1125899906842624 % 18446744073709551616) (x / 16384) := by
    rw [or_comm64]
    unfold rot
    rw [IntKind.wrap_u64]
    rfl
  go_enter Tryd.func37, Tryd.ntmps37
  go_wp2
  go_ret
  exact ⟨by rw [hr]; rfl, rfl⟩

theorem turned18 (w : World) (x : Int) :
    Calls Tryd.prog 31 #[.int .u64 x, .int .i64 18] w fun e w' => e = .returned (.int .u64 (rot 18 x)) ∧ ∃ m, w' = w.drewN m := by
  go_enter Tryd.func31, Tryd.ntmps31
  go_wp2
  go_quiet (fail)
  go_wp2
  go_ret
  exact ⟨rfl, _, rfl⟩
theorem rotl18 (w : World) (x : Int) :
    Calls Tryd.prog 37 #[.int .u64 x, .int .i64 (-18)] w fun e w' => e = .returned (.int .u64 (rot 18 x)) ∧ w' = w := by
  have e : bits .and .u64 (IntKind.u64.wrap (-18)) 63 = 46 := by kernel_rfl
  have hr : rot 18 x = bits .or .u64 (x * 70368744177664 % 18446744073709551616) (x / 262144) := by
    rw [or_comm64]
    unfold rot
    rw [IntKind.wrap_u64]
    rfl
  go_enter Tryd.func37, Tryd.ntmps37
  go_wp2
  go_ret
  exact ⟨by rw [hr]; rfl, rfl⟩

theorem turned19 (w : World) (x : Int) :
    Calls Tryd.prog 31 #[.int .u64 x, .int .i64 19] w fun e w' => e = .returned (.int .u64 (rot 19 x)) ∧ ∃ m, w' = w.drewN m := by
  go_enter Tryd.func31, Tryd.ntmps31
  go_wp2
  go_quiet (fail)
  go_wp2
  go_ret
  exact ⟨rfl, _, rfl⟩
theorem rotl19 (w : World) (x : Int) :
    Calls Tryd.prog 37 #[.int .u64 x, .int .i64 (-19)] w fun e w' => e = .returned (.int .u64 (rot 19 x)) ∧ w' = w := by
  have e : bits .and .u64 (IntKind.u64.wrap (-19)) 63 = 45 := by kernel_rfl
  have hr : rot 19 x = bits .or .u64 (x * 35184372088832 % 18446744073709551616) (x / 524288) := by
    rw [or_comm64]
    unfold rot
    rw [IntKind.wrap_u64]
    rfl
  go_enter Tryd.func37, Tryd.ntmps37
  go_wp2
  go_ret
  exact ⟨by rw [hr]; rfl, rfl⟩

theorem turned28 (w : World) (x : Int) :
    Calls Tryd.prog 31 #[.int .u64 x, .int .i64 28] w fun e w' => e = .returned (.int .u64 (rot 28 x)) ∧ ∃ m, w' = w.drewN m := by
  go_enter Tryd.func31, Tryd.ntmps31
  go_wp2
  go_quiet (fail)
  go_wp2
  go_ret
  exact ⟨rfl, _, rfl⟩
theorem rotl28 (w : World) (x : Int) :
    Calls Tryd.prog 37 #[.int .u64 x, .int .i64 (-28)] w fun e w' => e = .returned (.int .u64 (rot 28 x)) ∧ w' = w := by
  have e : bits .and .u64 (IntKind.u64.wrap (-28)) 63 = 36 := by kernel_rfl
  have hr : rot 28 x = bits .or .u64 (x * 68719476736 % 18446744073709551616) (x / 268435456) := by
    rw [or_comm64]
    unfold rot
    rw [IntKind.wrap_u64]
    rfl
  go_enter Tryd.func37, Tryd.ntmps37
  go_wp2
  go_ret
  exact ⟨by rw [hr]; rfl, rfl⟩

theorem turned34 (w : World) (x : Int) :
    Calls Tryd.prog 31 #[.int .u64 x, .int .i64 34] w fun e w' => e = .returned (.int .u64 (rot 34 x)) ∧ ∃ m, w' = w.drewN m := by
  go_enter Tryd.func31, Tryd.ntmps31
  go_wp2
  go_quiet (fail)
  go_wp2
  go_ret
  exact ⟨rfl, _, rfl⟩
theorem rotl34 (w : World) (x : Int) :
    Calls Tryd.prog 37 #[.int .u64 x, .int .i64 (-34)] w fun e w' => e = .returned (.int .u64 (rot 34 x)) ∧ w' = w := by
  have e : bits .and .u64 (IntKind.u64.wrap (-34)) 63 = 30 := by kernel_rfl
  have hr : rot 34 x = bits .or .u64 (x * 1073741824 % 18446744073709551616) (x / 17179869184) := by
    rw [or_comm64]
    unfold rot
    rw [IntKind.wrap_u64]
    rfl
  go_enter Tryd.func37, Tryd.ntmps37
  go_wp2
  go_ret
  exact ⟨by rw [hr]; rfl, rfl⟩

theorem turned39 (w : World) (x : Int) :
    Calls Tryd.prog 31 #[.int .u64 x, .int .i64 39] w fun e w' => e = .returned (.int .u64 (rot 39 x)) ∧ ∃ m, w' = w.drewN m := by
  go_enter Tryd.func31, Tryd.ntmps31
  go_wp2
  go_quiet (fail)
  go_wp2
  go_ret
  exact ⟨rfl, _, rfl⟩
theorem rotl39 (w : World) (x : Int) :
    Calls Tryd.prog 37 #[.int .u64 x, .int .i64 (-39)] w fun e w' => e = .returned (.int .u64 (rot 39 x)) ∧ w' = w := by
  have e : bits .and .u64 (IntKind.u64.wrap (-39)) 63 = 25 := by kernel_rfl
  have hr : rot 39 x = bits .or .u64 (x * 33554432 % 18446744073709551616) (x / 549755813888) := by
    rw [or_comm64]
    unfold rot
    rw [IntKind.wrap_u64]
    rfl
  go_enter Tryd.func37, Tryd.ntmps37
  go_wp2
  go_ret
  exact ⟨by rw [hr]; rfl, rfl⟩

theorem turned41 (w : World) (x : Int) :
    Calls Tryd.prog 31 #[.int .u64 x, .int .i64 41] w fun e w' => e = .returned (.int .u64 (rot 41 x)) ∧ ∃ m, w' = w.drewN m := by
  go_enter Tryd.func31, Tryd.ntmps31
  go_wp2
  go_quiet (fail)
  go_wp2
  go_ret
  exact ⟨rfl, _, rfl⟩
theorem rotl41 (w : World) (x : Int) :
    Calls Tryd.prog 37 #[.int .u64 x, .int .i64 (-41)] w fun e w' => e = .returned (.int .u64 (rot 41 x)) ∧ w' = w := by
  have e : bits .and .u64 (IntKind.u64.wrap (-41)) 63 = 23 := by kernel_rfl
  have hr : rot 41 x = bits .or .u64 (x * 8388608 % 18446744073709551616) (x / 2199023255552) := by
    rw [or_comm64]
    unfold rot
    rw [IntKind.wrap_u64]
    rfl
  go_enter Tryd.func37, Tryd.ntmps37
  go_wp2
  go_ret
  exact ⟨by rw [hr]; rfl, rfl⟩

theorem turned61 (w : World) (x : Int) :
    Calls Tryd.prog 31 #[.int .u64 x, .int .i64 61] w fun e w' => e = .returned (.int .u64 (rot 61 x)) ∧ ∃ m, w' = w.drewN m := by
  go_enter Tryd.func31, Tryd.ntmps31
  go_wp2
  go_quiet (fail)
  go_wp2
  go_ret
  exact ⟨rfl, _, rfl⟩
theorem rotl61 (w : World) (x : Int) :
    Calls Tryd.prog 37 #[.int .u64 x, .int .i64 (-61)] w fun e w' => e = .returned (.int .u64 (rot 61 x)) ∧ w' = w := by
  have e : bits .and .u64 (IntKind.u64.wrap (-61)) 63 = 3 := by kernel_rfl
  have hr : rot 61 x = bits .or .u64 (x * 8 % 18446744073709551616) (x / 2305843009213693952) := by
    rw [or_comm64]
    unfold rot
    rw [IntKind.wrap_u64]
    rfl
  go_enter Tryd.func37, Tryd.ntmps37
  go_wp2
  go_ret
  exact ⟨by rw [hr]; rfl, rfl⟩
end Go.Proofs.YtcbpnbfkjdmfgaaDoor.Sha
