/- A signed number as bytes of seven bits: the specification's, walked. No condition. -/
import Derived.Test.YtbenpkonepfipaaRb
import Derived.Test.YtbenpkonepfipaaVar
set_option linter.unusedVariables false
namespace Go.Proofs.Ytbenpkonepfipaa.Cnt
open Go.ChangeShapes Go.WideShapes Go.ChangeAt Go.RowKit
open Go.Proofs.Ytbenpkonepfipaa.Dig Go.Proofs.Ytbenpkonepfipaa.Mem Go.Proofs.Ytbenpkonepfipaa.Rb Go.Proofs.Ytbenpkonepfipaa.Var

/-- The number of a sign and a size. -/
def zz (d : Int) : Nat := if d < 0 then (-2 * d - 1).toNat else (2 * d).toNat
def enc (d : Int) : List Nat := uv 9 (zz d)
def I64 (d : Int) : Prop := -9223372036854775808 ≤ d ∧ d ≤ 9223372036854775807
theorem zz_lt {d : Int} (h : I64 d) : zz d < 18446744073709551616 := by
  obtain ⟨h1, h2⟩ := h
  unfold zz
  split <;> omega
theorem or128 (x : Nat) : bits .or .u8 ((x : Int) % 256) 128 = ((x % 128 + 128 : Nat) : Int) := by
  have e : (x : Int) % 256 = ((x % 256 : Nat) : Int) := by omega
  rw [e, show (128 : Int) = ((128 : Nat) : Int) from rfl, u8_or_nat _ _ (by omega) (by omega)]
  have h : ∀ y : Fin 256, y.val ||| 128 = y.val % 128 + 128 := by decide +kernel
  have := h ⟨x % 256, by omega⟩
  simp only at this
  rw [this]
  omega
theorem not64 (y : Nat) (h : y < 18446744073709551616) : 18446744073709551615 ^^^ y = 18446744073709551615 - y := by
  have h1 := congrArg BitVec.toNat (BitVec.allOnes_xor (x := BitVec.ofNat 64 y))
  rw [BitVec.toNat_xor, BitVec.toNat_allOnes, BitVec.toNat_not, BitVec.toNat_ofNat, Nat.mod_eq_of_lt (by simpa using h)] at h1
  simpa using h1
theorem zz_neg {d : Int} (h : I64 d) (hn : d < 0) : bits .xor .u64 IntKind.u64.max (IntKind.u64.wrap (IntKind.u64.wrap d * 2)) = ((zz d : Nat) : Int) := by
  obtain ⟨h1, h2⟩ := h
  have e : IntKind.u64.wrap (IntKind.u64.wrap d * 2) = (((2 * d + 18446744073709551616).toNat : Nat) : Int) := by
    rw [IntKind.wrap_u64, IntKind.wrap_u64]; omega
  rw [e, show IntKind.u64.max = ((18446744073709551615 : Nat) : Int) from by decide, u64_xor_nat _ _ (by omega) (by omega), not64 _ (by omega)]
  unfold zz
  rw [if_pos hn]
  omega
theorem zz_pos {d : Int} (h : I64 d) (hn : ¬ d < 0) : IntKind.u64.wrap (IntKind.u64.wrap d * 2) = ((zz d : Nat) : Int) := by
  obtain ⟨h1, h2⟩ := h
  unfold zz
  rw [if_neg hn, IntKind.wrap_u64, IntKind.wrap_u64]; omega
theorem uv_small {k x : Nat} (h : x < 128) : uv k x = [x] := by
  cases k with
  | zero => simp [uv]; omega
  | succ k => unfold uv; rw [if_pos h]
theorem uv_big {k x : Nat} (h : ¬ x < 128) : uv (k + 1) x = (x % 128 + 128) :: uv k (x / 128) := by
  rw [uv, if_neg h]
theorem info5 : (Try.prog.info? 5).map (fun i => (i.zero, i.size, i.bytes)) = some (some (.int .u8 0), 1, 1) := by kernel_rfl

set_option maxRecDepth 100000 in
set_option maxHeartbeats 1000000 in
theorem varint (w : World) (d : Int) (hd : I64 d) :
    Calls Try.prog 51 #[.int .i64 d] w fun e w' => ∃ a n c, e = .returned (.slice a n c) ∧ RB w' a n c (enc d) ∧ Below w.heap.size w w' := by
  obtain ⟨Z, hZ⟩ : ∃ Z, Z = zz d := ⟨_, rfl⟩
  have hZl : Z < 18446744073709551616 := by rw [hZ]; exact zz_lt hd
  have HZ := Lib.hid hZ
  obtain ⟨i5, hi, hz0, hz1, hz2⟩ := info_parts info5
  have hd' := hd
  obtain ⟨h1, h2⟩ := hd'
  have zneg := fun hn => zz_neg hd hn
  have zpos := fun hn => zz_pos hd hn
  rw [← hZ] at zneg zpos
  clear hZ hd
  by_cases hneg : d < 0
  · have hz := zneg hneg
    clear zneg zpos
    go_enter Try.func51, Try.ntmps51
    go_wp2_with fail
    go_loopw [3, 4] (fun nv v wr => ∃ x m : Nat, ∃ pre : List Nat, m ≤ 9 ∧ nv = .int .u64 (x : Int) ∧ x < 128 ^ (10 - m) ∧ pre ++ uv (9 - m) x = enc d ∧ (∀ b ∈ pre, b < 256) ∧ wr.ownsRow w.heap.size 5 1 v m (bs pre) ∧ Below w.heap.size w wr) (fun nv _ _ => (intOf nv).toNat)
    case atStart =>
      exact ⟨Z, 0, [], by omega, rfl, Nat.lt_of_lt_of_le hZl (by decide), by rw [HZ.out]; rfl, by simp, ⟨by simp [bs], Or.inl ⟨rfl, rfl⟩⟩, Below.refl _ _⟩
    case round =>
      obtain ⟨x, m, pre, hm, rfl, hx, he, hpre, hown, hbel⟩ := hrel
      have hws := hbel.size
      have HXB := Lib.hid hx
      have HEE := Lib.hid he
      have HPRE := Lib.hid hpre
      have hx64 : x < 18446744073709551616 * 64 := Nat.lt_of_lt_of_le hx (Nat.le_trans (Nat.pow_le_pow_right (by omega) (show 10 - m ≤ 10 by omega)) (by decide))
      clear hx he hpre
      by_cases h128 : 128 ≤ x
      · have hor := or128 x
        obtain ⟨q, hq⟩ : ∃ q, q = x % 128 + 128 := ⟨_, rfl⟩
        rw [← hq] at hor
        obtain ⟨r, hr⟩ : ∃ r, r = x / 128 := ⟨_, rfl⟩
        have hrx : (x : Int) / 128 = (r : Int) := by omega
        have hq256 : q < 256 := by omega
        have hrlt : r < x := by omega
        have HQ := Lib.hid hq
        have HR := Lib.hid hr
        clear hq hr
        go_wp2_with (first
          | (at_builtin; refine wpList_append_own _ rfl _ _ 27 rfl w.heap.size 5 i5 (.int .u8 0) 1 1 Try.underlying27 hi hz0 hz1 hz2 rfl (by decide) _ _ _ rfl (hown.alloc _) ⟨wr.heap.size, 0, none⟩ 1 1 [.int .u8 ((q : Nat) : Int)] rfl rfl (cell_one_new _ _ _) (by simp [Value.oneCell']) (by unfold maxLen; omega) (by omega) (by simp; omega) ?_; intro v' w2 hown' hgrow _))
        go_roundw
        case rel =>
          have hm9 : m ≠ 9 := by
            intro h
            have := HXB.out
            rw [h] at this
            simp at this
            omega
          refine ⟨r, m + 1, pre ++ [q], by omega, by go_num, ?_, ?_, ?_, by rw [bs_append]; exact hown', (hbel.alloc hws _).grown hgrow (by simp; omega) (fun j hj => (hown.lt j hj).1)⟩
          · have := HXB.out
            rw [show 10 - m = (10 - (m + 1)) + 1 by omega, Nat.pow_succ] at this
            rw [HR.out]
            exact Nat.div_lt_of_lt_mul (by rw [Nat.mul_comm]; exact this)
          · have := HEE.out
            rw [show 9 - m = (9 - (m + 1)) + 1 by omega, uv_big (by omega)] at this
            rw [← this, HQ.out, HR.out, List.append_assoc]
            rfl
          · intro b hb
            rcases List.mem_append.1 hb with h | h
            · exact HPRE.out b h
            · rw [List.mem_singleton.1 h]; exact hq256
        case measure => simp [intOf]; omega
      · have hxx : (x : Int) % 256 = (x : Int) := by omega
        have hx128 : x < 128 := by omega
        go_wp2_with (first
          | (at_builtin; refine wpList_append_own _ rfl _ _ 27 rfl w.heap.size 5 i5 (.int .u8 0) 1 1 Try.underlying27 hi hz0 hz1 hz2 rfl (by decide) _ _ _ rfl (hown.alloc _) ⟨wr.heap.size, 0, none⟩ 1 1 [.int .u8 ((x : Nat) : Int)] rfl rfl (cell_one_new _ _ _) (by simp [Value.oneCell']) (by unfold maxLen; omega) (by omega) (by simp; omega) ?_; intro v' w2 hown' hgrow _))
        have he := HEE.out
        rw [uv_small hx128] at he
        have hown2 : w2.ownsRow w.heap.size 5 1 v' (m + 1) (bs (enc d)) := by rw [← he, bs_append]; exact hown'
        obtain ⟨g, cap, rfl, _, _⟩ := hown2.form (by omega)
        go_ret
        refine ⟨_, _, _, rfl, RB.of_own hown2 (fun b hb => ?_), (hbel.alloc hws _).grown hgrow (by simp; omega) (fun j hj => (hown.lt j hj).1)⟩
        exact uv_byte 9 _ b hb
  · have hz : d * 2 = (Z : Int) := by rw [HZ.out]; unfold zz; rw [if_neg hneg]; omega
    clear zneg zpos
    go_enter Try.func51, Try.ntmps51
    go_wp2_with fail
    go_loopw [3, 4] (fun nv v wr => ∃ x m : Nat, ∃ pre : List Nat, m ≤ 9 ∧ nv = .int .u64 (x : Int) ∧ x < 128 ^ (10 - m) ∧ pre ++ uv (9 - m) x = enc d ∧ (∀ b ∈ pre, b < 256) ∧ wr.ownsRow w.heap.size 5 1 v m (bs pre) ∧ Below w.heap.size w wr) (fun nv _ _ => (intOf nv).toNat)
    case atStart =>
      exact ⟨Z, 0, [], by omega, rfl, Nat.lt_of_lt_of_le hZl (by decide), by rw [HZ.out]; rfl, by simp, ⟨by simp [bs], Or.inl ⟨rfl, rfl⟩⟩, Below.refl _ _⟩
    case round =>
      obtain ⟨x, m, pre, hm, rfl, hx, he, hpre, hown, hbel⟩ := hrel
      have hws := hbel.size
      have HXB := Lib.hid hx
      have HEE := Lib.hid he
      have HPRE := Lib.hid hpre
      have hx64 : x < 18446744073709551616 * 64 := Nat.lt_of_lt_of_le hx (Nat.le_trans (Nat.pow_le_pow_right (by omega) (show 10 - m ≤ 10 by omega)) (by decide))
      clear hx he hpre
      by_cases h128 : 128 ≤ x
      · have hor := or128 x
        obtain ⟨q, hq⟩ : ∃ q, q = x % 128 + 128 := ⟨_, rfl⟩
        rw [← hq] at hor
        obtain ⟨r, hr⟩ : ∃ r, r = x / 128 := ⟨_, rfl⟩
        have hrx : (x : Int) / 128 = (r : Int) := by omega
        have hq256 : q < 256 := by omega
        have hrlt : r < x := by omega
        have HQ := Lib.hid hq
        have HR := Lib.hid hr
        clear hq hr
        go_wp2_with (first
          | (at_builtin; refine wpList_append_own _ rfl _ _ 27 rfl w.heap.size 5 i5 (.int .u8 0) 1 1 Try.underlying27 hi hz0 hz1 hz2 rfl (by decide) _ _ _ rfl (hown.alloc _) ⟨wr.heap.size, 0, none⟩ 1 1 [.int .u8 ((q : Nat) : Int)] rfl rfl (cell_one_new _ _ _) (by simp [Value.oneCell']) (by unfold maxLen; omega) (by omega) (by simp; omega) ?_; intro v' w2 hown' hgrow _))
        go_roundw
        case rel =>
          have hm9 : m ≠ 9 := by
            intro h
            have := HXB.out
            rw [h] at this
            simp at this
            omega
          refine ⟨r, m + 1, pre ++ [q], by omega, by go_num, ?_, ?_, ?_, by rw [bs_append]; exact hown', (hbel.alloc hws _).grown hgrow (by simp; omega) (fun j hj => (hown.lt j hj).1)⟩
          · have := HXB.out
            rw [show 10 - m = (10 - (m + 1)) + 1 by omega, Nat.pow_succ] at this
            rw [HR.out]
            exact Nat.div_lt_of_lt_mul (by rw [Nat.mul_comm]; exact this)
          · have := HEE.out
            rw [show 9 - m = (9 - (m + 1)) + 1 by omega, uv_big (by omega)] at this
            rw [← this, HQ.out, HR.out, List.append_assoc]
            rfl
          · intro b hb
            rcases List.mem_append.1 hb with h | h
            · exact HPRE.out b h
            · rw [List.mem_singleton.1 h]; exact hq256
        case measure => simp [intOf]; omega
      · have hxx : (x : Int) % 256 = (x : Int) := by omega
        have hx128 : x < 128 := by omega
        go_wp2_with (first
          | (at_builtin; refine wpList_append_own _ rfl _ _ 27 rfl w.heap.size 5 i5 (.int .u8 0) 1 1 Try.underlying27 hi hz0 hz1 hz2 rfl (by decide) _ _ _ rfl (hown.alloc _) ⟨wr.heap.size, 0, none⟩ 1 1 [.int .u8 ((x : Nat) : Int)] rfl rfl (cell_one_new _ _ _) (by simp [Value.oneCell']) (by unfold maxLen; omega) (by omega) (by simp; omega) ?_; intro v' w2 hown' hgrow _))
        have he := HEE.out
        rw [uv_small hx128] at he
        have hown2 : w2.ownsRow w.heap.size 5 1 v' (m + 1) (bs (enc d)) := by rw [← he, bs_append]; exact hown'
        obtain ⟨g, cap, rfl, _, _⟩ := hown2.form (by omega)
        go_ret
        refine ⟨_, _, _, rfl, RB.of_own hown2 (fun b hb => ?_), (hbel.alloc hws _).grown hgrow (by simp; omega) (fun j hj => (hown.lt j hj).1)⟩
        exact uv_byte 9 _ b hb
end Go.Proofs.Ytbenpkonepfipaa.Cnt
