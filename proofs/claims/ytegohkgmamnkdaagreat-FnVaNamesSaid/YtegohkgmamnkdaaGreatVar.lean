/- Plain facts: whole numbers as rows of bytes of seven bits each, and signed differences. No condition. -/
set_option linter.unusedVariables false
namespace Go.Proofs.YtegohkgmamnkdaaGreat.Var

/-- A number as bytes of seven bits, the least ones first; at most k + 1 bytes are told. -/
def uv : Nat → Nat → List Nat
  | 0, x => [x % 256]
  | k + 1, x => if x < 128 then [x] else (x % 128 + 128) :: uv k (x / 128)

theorem uv_pos (k x : Nat) : 0 < (uv k x).length := by
  cases k with
  | zero => simp [uv]
  | succ k => unfold uv; split <;> simp
theorem uv_le : ∀ k x, (uv k x).length ≤ k + 1
  | 0, x => by simp [uv]
  | k + 1, x => by
    unfold uv
    split
    · simp
    · have := uv_le k (x / 128); simp; omega
theorem uv_byte : ∀ k x, ∀ b ∈ uv k x, b < 256
  | 0, x => by simp [uv]; omega
  | k + 1, x => by
    unfold uv
    split
    · simp; omega
    · intro b hb
      simp only [List.mem_cons] at hb
      rcases hb with rfl | hb
      · omega
      · exact uv_byte k _ b hb

/-- Reading: x so far, s bits; what is there: the number, and how many bytes it took. -/
def rd : Nat → Nat → List Nat → Option (Nat × Nat)
  | _, _, [] => none
  | x, s, b :: l => if b < 128 then some (x + b * 2 ^ s, 1) else (rd (x + (b - 128) * 2 ^ s) (s + 7) l).map fun r => (r.1, r.2 + 1)

theorem rd_uv : ∀ k x s y l, y < 128 ^ (k + 1) → rd x s (uv k y ++ l) = some (x + y * 2 ^ s, (uv k y).length)
  | 0, x, s, y, l, h => by
    have hy : y < 128 := by simpa using h
    have e : y % 256 = y := Nat.mod_eq_of_lt (by omega)
    simp [uv, rd, e, hy]
  | k + 1, x, s, y, l, h => by
    unfold uv
    by_cases hy : y < 128
    · rw [if_pos hy]; simp [rd, hy]
    · rw [if_neg hy]
      have h2 : y / 128 < 128 ^ (k + 1) := by
        rw [Nat.pow_succ] at h
        exact Nat.div_lt_of_lt_mul (by rw [Nat.mul_comm]; exact h)
      rw [List.cons_append, rd, if_neg (by omega), rd_uv k _ _ _ _ h2]
      simp only [Option.map_some, List.length_cons, Option.some.injEq, Prod.mk.injEq, and_true]
      have e1 : y % 128 + 128 - 128 = y % 128 := by omega
      have e2 : 2 ^ (s + 7) = 128 * 2 ^ s := by rw [Nat.pow_add]; omega
      rw [e1, e2, ← Nat.mul_assoc, Nat.add_assoc, ← Nat.add_mul, Nat.add_comm (y % 128), Nat.div_add_mod']

end Go.Proofs.YtegohkgmamnkdaaGreat.Var
