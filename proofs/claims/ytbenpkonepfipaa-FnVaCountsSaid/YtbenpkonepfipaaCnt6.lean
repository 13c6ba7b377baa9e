/- Numbers read back from bytes of seven bits: Uvarint, Varint, walked. Condition: that they begin with such a number. -/
import Derived.Test.YtbenpkonepfipaaCnt5
import Derived.Laws.DeepNot64
set_option linter.unusedVariables false
namespace Go.Proofs.Ytbenpkonepfipaa.Cnt
open Go.ChangeShapes Go.WideShapes Go.ChangeAt Go.RowKit
open Go.Proofs.Ytbenpkonepfipaa.Dig Go.Proofs.Ytbenpkonepfipaa.Mem Go.Proofs.Ytbenpkonepfipaa.Rb Go.Proofs.Ytbenpkonepfipaa.Var

theorem or_add (x y k : Nat) (hx : x < 2 ^ k) (h : x + y * 2 ^ k < 18446744073709551616) : bits .or .u64 (x : Int) (IntKind.u64.wrap ((y : Int) * 2 ^ k)) = ((x + y * 2 ^ k : Nat) : Int) := by
  have e : (y : Int) * 2 ^ k = ((y * 2 ^ k : Nat) : Int) := by simp
  rw [e, IntKind.wrap_u64, show ((y * 2 ^ k : Nat) : Int) % 18446744073709551616 = ((y * 2 ^ k : Nat) : Int) by omega, u64_or_nat _ _ (by omega) (by omega)]
  congr 1
  rw [Nat.or_comm, Nat.mul_comm y, ← Nat.two_pow_add_eq_or_of_lt hx]
  omega
theorem and127 : ∀ q : Fin 256, bits .and .u8 ((q.val : Nat) : Int) 127 = ((q.val % 128 : Nat) : Int) := by decide +kernel

set_option maxRecDepth 100000 in
set_option maxHeartbeats 1000000 in
theorem uvarint (w : World) (a : Option Addr) (n c X L : Nat) (rest : List Nat) (hr : RB w a n c (uv 9 X ++ rest)) (hX : X < 18446744073709551616) (hL : L = (uv 9 X).length) (hn : n ≤ 100000) :
    Calls Try.prog 81 #[.slice a n c] w fun e w' => e = .returned (.tuple #[.int .u64 (X : Int), .int .i64 (L : Int)]) ∧ w = w' := by
  have hl := hr.len
  rw [List.length_append] at hl
  have hp := uv_pos 9 X
  obtain ⟨b, o, rfl, hb⟩ := hr.at_ (by omega)
  have HB := Lib.hid hb
  have HLN := Lib.hid hl
  have HL := Lib.hid hL
  clear hr hb hl hL hp
  go_enter Try.func81, Try.ntmps81
  go_wp2_with fail
  go_loopw [4, 5, 10] (fun xv sv iv wr => ∃ j y x : Nat, ∃ D : List Nat, j ≤ 9 ∧ iv = .int .i64 (j : Int) ∧ sv = .int .u64 ((7 * j : Nat) : Int) ∧ xv = .int .u64 (x : Int) ∧ D ++ uv (9 - j) y = uv 9 X ∧ D.length = j ∧ y < 128 ^ (10 - j) ∧ X = x + y * 2 ^ (7 * j) ∧ x < 2 ^ (7 * j) ∧ wr = w) (fun _ _ iv _ => 10 - (intOf iv).toNat)
  case atStart =>
    exact ⟨0, X, 0, [], by omega, rfl, rfl, rfl, rfl, rfl, Nat.lt_of_lt_of_le hX (by decide), by simp, by simp, rfl⟩
  case round =>
    obtain ⟨j, y, x, D, hj, rfl, rfl, rfl, he, hD, hy, hXe, hx, rfl⟩ := hrel
    have hul : (uv 9 X).length = j + (uv (9 - j) y).length := by rw [← he, List.length_append, hD]
    have hup := uv_pos (9 - j) y
    have hjn : j < n := by have := HLN.out; omega
    obtain ⟨q, hq⟩ : ∃ q, q = (uv 9 X ++ rest).getD j 0 := ⟨_, rfl⟩
    have gq : wr.cell? ⟨b, o + j, none⟩ = some (.int .u8 (q : Int)) := by rw [hq]; exact HB.out j (by rw [List.length_append]; omega)
    have hqe : q = (uv (9 - j) y ++ rest).getD 0 0 := by
      rw [hq, ← he, List.append_assoc]
      simp only [List.getD_eq_getElem?_getD]
      rw [List.getElem?_append_right (by omega), hD, Nat.sub_self]
    have HE := Lib.hid he
    have HD := Lib.hid hD
    have HY := Lib.hid hy
    have HXE := Lib.hid hXe
    have HXX := Lib.hid hx
    have HUL := Lib.hid hul
    have h10 : ((j : Int) == 10) = false := by rw [beq_eq_false_iff_ne]; omega
    by_cases hy128 : y < 128
    · have hqy : q = y := by rw [hqe, uv_small hy128]; rfl
      subst hqy
      have hL1 : L = j + 1 := by rw [HL.out, HUL.out, uv_small hy128]; rfl
      have hor := or_add x q (7 * j) hx (by omega)
      rw [← hXe] at hor
      have hj9 : j = 9 → q ≤ 1 := fun h => by rw [h] at hXe; omega
      have HL1 := Lib.hid hL1
      clear he hD hy hXe hul hup hq hqe hL1 hx
      by_cases h9 : j = 9
      · have hq1 : ¬ (1 : Int) < (q : Int) := by have := hj9 h9; omega
        subst h9
        have hor2 : bits .or .u64 (x : Int) ((q : Int) * 9223372036854775808) = (X : Int) := by
          rw [← hor]
          congr 1
          rw [IntKind.wrap_u64]
          have e : (2 : Int) ^ (7 * 9) = 9223372036854775808 := by decide
          rw [e]
          omega
        clear hj9 hor
        go_wp2_with fail
        refine bodyPost_ret (results_tmp2 rfl _ _ _) rfl ?_
        have := HL1.out
        subst this
        exact ⟨rfl, rfl⟩
      · have h9' : ((j : Int) == 9) = false := by rw [beq_eq_false_iff_ne]; omega
        clear hj9
        go_wp2_with fail
        refine bodyPost_ret (results_tmp2 rfl _ _ _) rfl ?_
        have := HL1.out
        subst this
        exact ⟨rfl, rfl⟩
    · have hj8 : j ≠ 9 := by
        intro h
        rw [h] at hy
        simp at hy
        omega
      have hqy : q = y % 128 + 128 := by
        rw [hqe, show 9 - j = (9 - (j + 1)) + 1 by omega, uv_big hy128]; rfl
      have hand := and127 ⟨q, by omega⟩
      simp only at hand
      obtain ⟨r, hr⟩ : ∃ r, r = y % 128 := ⟨_, rfl⟩
      rw [show q % 128 = r by omega] at hand
      have hyr : y * 2 ^ (7 * j) = r * 2 ^ (7 * j) + y / 128 * 2 ^ (7 * (j + 1)) := by
        have e : 2 ^ (7 * (j + 1)) = 128 * 2 ^ (7 * j) := by rw [show 7 * (j + 1) = 7 * j + 7 by omega, Nat.pow_add]; omega
        rw [e, ← Nat.mul_assoc, ← Nat.add_mul]
        congr 1
        omega
      have hor := or_add x r (7 * j) hx (by omega)
      obtain ⟨x', hx'⟩ : ∃ x', x' = x + r * 2 ^ (7 * j) := ⟨_, rfl⟩
      rw [← hx'] at hor
      have hxb : x' < 2 ^ (7 * (j + 1)) := by
        have e : 2 ^ (7 * (j + 1)) = 128 * 2 ^ (7 * j) := by rw [show 7 * (j + 1) = 7 * j + 7 by omega, Nat.pow_add]; omega
        have h2 : r * 2 ^ (7 * j) ≤ 127 * 2 ^ (7 * j) := Nat.mul_le_mul_right _ (by omega)
        rw [hx', e]; omega
      have hXn : X = x' + y / 128 * 2 ^ (7 * (j + 1)) := by rw [hXe, hx', hyr]; omega
      have hen : (D ++ [q]) ++ uv (9 - (j + 1)) (y / 128) = uv 9 X := by
        rw [← he, show 9 - j = (9 - (j + 1)) + 1 by omega, uv_big hy128, hqy, List.append_assoc]; rfl
      have hyn : y / 128 < 128 ^ (10 - (j + 1)) := by
        rw [show 10 - j = (10 - (j + 1)) + 1 by omega, Nat.pow_succ] at hy
        exact Nat.div_lt_of_lt_mul (by rw [Nat.mul_comm]; exact hy)
      have hq128 : ¬ q < 128 := by omega
      have HXB := Lib.hid hxb
      have HXN := Lib.hid hXn
      have HEN := Lib.hid hen
      have HYN := Lib.hid hyn
      have hrb : r < 128 := by omega
      clear he hD hy hXe hx hul hup hq hqe hxb hXn hen hyn hyr hqy hr hx'
      go_wp2_with fail
      go_roundw
      case rel => exact ⟨j + 1, y / 128, x', D ++ [q], by omega, by go_num, by go_num, rfl, HEN.out, by rw [List.length_append, HD.out]; rfl, HYN.out, HXN.out, HXB.out, trivial⟩
      case measure => simp [intOf]; omega

theorem unzz_pos {d : Int} (h : I64 d) (hn : ¬ d < 0) : bits .and .u64 ((zz d : Nat) : Int) 1 = 0 ∧ IntKind.i64.wrap (((zz d : Nat) : Int) / 2) = d := by
  have hz := zz_lt h
  obtain ⟨h1, h2⟩ := h
  refine ⟨?_, ?_⟩
  · rw [show (1 : Int) = ((1 : Nat) : Int) from rfl, u64_and_nat _ _ hz (by omega), nat_mask1]
    unfold zz
    rw [if_neg hn]; omega
  · rw [IntKind.wrap_i64]; unfold zz; rw [if_neg hn]; omega
theorem unzz_neg {d : Int} (h : I64 d) (hn : d < 0) : bits .and .u64 ((zz d : Nat) : Int) 1 = 1 ∧ IntKind.i64.wrap (((zz d : Nat) : Int) / 2) = - d - 1 := by
  have hz := zz_lt h
  obtain ⟨h1, h2⟩ := h
  refine ⟨?_, ?_⟩
  · rw [show (1 : Int) = ((1 : Nat) : Int) from rfl, u64_and_nat _ _ hz (by omega), nat_mask1]
    unfold zz
    rw [if_pos hn]; omega
  · rw [IntKind.wrap_i64]; unfold zz; rw [if_pos hn]; omega

set_option maxRecDepth 100000 in
theorem varintRead (w : World) (a : Option Addr) (n c L : Nat) (d : Int) (rest : List Nat) (hr : RB w a n c (enc d ++ rest)) (hd : I64 d) (hL : L = (enc d).length) (hn : n ≤ 100000) :
    Calls Try.prog 77 #[.slice a n c] w fun e w' => e = .returned (.tuple #[.int .i64 d, .int .i64 (L : Int)]) ∧ w = w' := by
  have K := Lib.hid (uvarint w a n c (zz d) L rest hr (zz_lt hd) hL hn)
  have hzl := zz_lt hd
  have u1 := fun hn => unzz_pos hd hn
  have u2 := fun hn => unzz_neg hd hn
  obtain ⟨d1, d2⟩ := hd
  obtain ⟨Z, hZ⟩ : ∃ Z, Z = zz d := ⟨_, rfl⟩
  rw [← hZ] at K u1 u2 hzl
  clear hr hL hZ
  by_cases hneg : d < 0
  · obtain ⟨b1, b2⟩ := u2 hneg
    have b3 : bits .xor .i64 (-1) (-d - 1) = d := by
      have := i64_not (-d - 1).toNat (by omega)
      rw [show (((-d - 1).toNat : Nat) : Int) = -d - 1 by omega] at this
      rw [this]; omega
    clear u1 u2
    go_enter Try.func77, Try.ntmps77
    go_wp2_with (go_at_call 81; (with_reducible refine K.out.mono ?_); rintro e w1 ⟨rfl, rfl⟩)
    refine bodyPost_ret (results_tmp2 rfl _ _ _) rfl ?_
    exact ⟨rfl, rfl⟩
  · obtain ⟨b1, b2⟩ := u1 hneg
    clear u1 u2
    go_enter Try.func77, Try.ntmps77
    go_wp2_with (go_at_call 81; (with_reducible refine K.out.mono ?_); rintro e w1 ⟨rfl, rfl⟩)
    refine bodyPost_ret (results_tmp2 rfl _ _ _) rfl ?_
    exact ⟨rfl, rfl⟩
end Go.Proofs.Ytbenpkonepfipaa.Cnt
