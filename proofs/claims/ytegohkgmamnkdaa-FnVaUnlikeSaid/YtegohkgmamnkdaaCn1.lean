/- Signed numbers as bytes of seven bits; written into a buffer, walked. Condition: ten bytes of room. -/
import Derived.Test.YtegohkgmamnkdaaBld2
import Derived.Test.YtegohkgmamnkdaaVar
set_option linter.unusedVariables false
namespace Go.Proofs.Ytegohkgmamnkdaa.Cnt
open Go.ChangeShapes Go.WideShapes Go.ChangeAt Go.RowKit
open Go.Proofs.Ytegohkgmamnkdaa.Dig Go.Proofs.Ytegohkgmamnkdaa.Mem Go.Proofs.Ytegohkgmamnkdaa.Rb Go.Proofs.Ytegohkgmamnkdaa.Var

/-- The number of a sign and a size. -/
def zz (d : Int) : Nat := if d < 0 then (-2 * d - 1).toNat else (2 * d).toNat
def enc (d : Int) : List Nat := uv 9 (zz d)
def I64 (d : Int) : Prop := -9223372036854775808 ≤ d ∧ d ≤ 9223372036854775807
theorem zz_lt {d : Int} (h : I64 d) : zz d < 18446744073709551616 := by
  obtain ⟨h1, h2⟩ := h
  unfold zz
  split <;> omega
theorem or128 (x : Nat) : bits .or .u8 ((x : Int) % 256) 128 = ((x % 128 + 128 : Nat) : Int) := by
  have e : (x : Int) % 256 = ((x % 256 : Nat) : Int) := by omega
  rw [e, show (128 : Int) = ((128 : Nat) : Int) from rfl, u8_or_nat _ _ (by omega) (by omega)]
  have h : ∀ y : Fin 256, y.val ||| 128 = y.val % 128 + 128 := by decide +kernel
  have := h ⟨x % 256, by omega⟩
  simp only at this
  rw [this]
  omega
theorem not64 (y : Nat) (h : y < 18446744073709551616) : 18446744073709551615 ^^^ y = 18446744073709551615 - y := by
  have h1 := congrArg BitVec.toNat (BitVec.allOnes_xor (x := BitVec.ofNat 64 y))
  rw [BitVec.toNat_xor, BitVec.toNat_allOnes, BitVec.toNat_not, BitVec.toNat_ofNat, Nat.mod_eq_of_lt (by simpa using h)] at h1
  simpa using h1
theorem zz_neg {d : Int} (h : I64 d) (hn : d < 0) : bits .xor .u64 IntKind.u64.max (IntKind.u64.wrap (IntKind.u64.wrap d * 2)) = ((zz d : Nat) : Int) := by
  obtain ⟨h1, h2⟩ := h
  have e : IntKind.u64.wrap (IntKind.u64.wrap d * 2) = (((2 * d + 18446744073709551616).toNat : Nat) : Int) := by
    rw [IntKind.wrap_u64, IntKind.wrap_u64]; omega
  rw [e, show IntKind.u64.max = ((18446744073709551615 : Nat) : Int) from by decide, u64_xor_nat _ _ (by omega) (by omega), not64 _ (by omega)]
  unfold zz
  rw [if_pos hn]
  omega
theorem zz_pos {d : Int} (h : I64 d) (hn : ¬ d < 0) : IntKind.u64.wrap (IntKind.u64.wrap d * 2) = ((zz d : Nat) : Int) := by
  obtain ⟨h1, h2⟩ := h
  unfold zz
  rw [if_neg hn, IntKind.wrap_u64, IntKind.wrap_u64]; omega
theorem uv_small {k x : Nat} (h : x < 128) : uv k x = [x] := by
  cases k with
  | zero => simp [uv]; omega
  | succ k => unfold uv; rw [if_pos h]
theorem uv_big {k x : Nat} (h : ¬ x < 128) : uv (k + 1) x = (x % 128 + 128) :: uv k (x / 128) := by
  rw [uv, if_neg h]
theorem info5 : (Try.prog.info? 5).map (fun i => (i.zero, i.size, i.bytes)) = some (some (.int .u8 0), 1, 1) := by kernel_rfl

/-- The signed difference of two numbers of 64 bits. -/
def sd (x p : Nat) : Int := IntKind.i64.wrap ((x : Int) - (p : Int))
theorem sd_i64 (x p : Nat) : I64 (sd x p) := by
  unfold sd I64
  rw [IntKind.wrap_i64]; omega
theorem sd_wrap (x p : Nat) : Go.RowKit.wrap64 (IntKind.u64.wrap ((x : Int) - (p : Int))) = sd x p := by
  unfold sd wrap64
  rw [IntKind.wrap_i64, IntKind.wrap_u64]; omega
def encs : Nat → List Nat → List Nat
  | _, [] => []
  | p, x :: xs => enc (sd x p) ++ encs x xs
def lastOf : Nat → List Nat → Nat
  | p, [] => p
  | _, x :: xs => lastOf x xs
theorem encs_snoc : ∀ (p : Nat) (xs : List Nat) (x : Nat), encs p (xs ++ [x]) = encs p xs ++ enc (sd x (lastOf p xs))
  | p, [], x => by simp [encs, lastOf]
  | p, y :: ys, x => by simp [encs, lastOf, encs_snoc y ys x]
theorem lastOf_snoc : ∀ (p : Nat) (xs : List Nat) (x : Nat), lastOf p (xs ++ [x]) = x
  | p, [], x => rfl
  | p, y :: ys, x => by simp [lastOf, lastOf_snoc y ys x]
theorem encs_length : ∀ (p : Nat) (xs : List Nat), (encs p xs).length ≤ 10 * xs.length
  | p, [] => by simp [encs]
  | p, y :: ys => by
    have := encs_length y ys
    have := uv_le 9 (zz (sd y p))
    simp only [encs, enc, List.length_append, List.length_cons]; omega
theorem encs_byte : ∀ (p : Nat) (xs : List Nat), ∀ b ∈ encs p xs, b < 256
  | p, [] => by simp [encs]
  | p, y :: ys => by
    intro b hb
    simp only [encs, List.mem_append] at hb
    rcases hb with h | h
    · exact uv_byte 9 _ b h
    · exact encs_byte y ys b h
theorem own_form {w : World} {base n : Nat} {e : TypeId} {v : Value} {xs : List Value} (h : w.ownsRow base e 1 v n xs) : ∃ a c, v = .slice a n c := by
  rcases h.2 with ⟨h0, hn⟩ | ⟨g, cap, cur, hv, _⟩
  · exact ⟨none, 0, by rw [h0]; simp_all⟩
  · exact ⟨_, _, hv⟩
theorem lastOf_lt : ∀ (p : Nat) (xs : List Nat), p < 18446744073709551616 → (∀ x ∈ xs, x < 18446744073709551616) → lastOf p xs < 18446744073709551616
  | p, [], h, _ => h
  | p, y :: ys, _, h => lastOf_lt y ys (h y (List.mem_cons_self ..)) (fun x hx => h x (List.mem_cons_of_mem _ hx))
theorem take_more {cs : List Nat} {k : Nat} (h : k < cs.length) : cs.take (k + 1) = cs.take k ++ [cs.getD k 0] := by
  rw [List.take_succ_eq_append_getElem h, List.getD_eq_getElem?_getD, List.getElem?_eq_getElem h]; rfl
def Nums64 (w : World) (a : Option Addr) (cs : List Nat) : Prop := 0 < cs.length → ∃ b o, a = some ⟨b, o, none⟩ ∧ b < w.heap.size ∧ ∀ i, i < cs.length → w.cell? ⟨b, o + i, none⟩ = some (.int .u64 ((cs.getD i 0 : Nat) : Int))


/-- A block of the call's own that holds bytes. -/
structure Own (w0 w : World) (g : Nat) (xs : List Nat) : Prop where
  row : w.heap[g]? = some (.cells (bs xs).toArray 5 (0, 0))
  bel : Below w0.heap.size w0 w
  hg : w0.heap.size ≤ g
theorem Own.cell {w0 w : World} {g i : Nat} {xs : List Nat} (h : Own w0 w g xs) (hi : i < xs.length) : w.cell? ⟨g, i, none⟩ = some (.int .u8 ((xs.getD i 0 : Nat) : Int)) := by
  simp only [World.cell?, h.row]
  simpa using bs_get hi
theorem Own.frozen {w0 w : World} {g i : Nat} {xs : List Nat} (h : Own w0 w g xs) : w.frozen? ⟨g, i, none⟩ = false := by simp [World.frozen?, h.row]
theorem Own.set {w0 w : World} {g p r : Nat} {L : List Nat} (h : Own w0 w g (L ++ List.replicate (r + 1) 0)) (v : Nat) (hp : p = L.length) : Own w0 (w.setCell ⟨g, p, none⟩ (.int .u8 (v : Int))) g (L ++ [v] ++ List.replicate r 0) := by
  subst hp
  refine ⟨?_, h.bel.setCell h.hg _, h.hg⟩
  simp [World.setCell, Array.getElem?_modify, h.row, bs, List.replicate_succ]

set_option maxRecDepth 100000 in
set_option maxHeartbeats 1000000 in
theorem putUvarint (w0 w : World) (g pos R X : Nat) (A : List Nat) (hO : Own w0 w g (A ++ List.replicate R 0)) (hpos : pos = A.length) (hR : 10 ≤ R) (hR2 : R ≤ 1000000) (hX : X < 18446744073709551616) :
    Calls Try.prog 77 #[.slice (some ⟨g, pos, none⟩) R R, .int .u64 (X : Int)] w fun e w' => e = .returned (.int .i64 (((uv 9 X).length : Nat) : Int)) ∧ Own w0 w' g (A ++ uv 9 X ++ List.replicate (R - (uv 9 X).length) 0) := by
  have HO := Lib.hid hO
  have HP := Lib.hid hpos
  clear hO hpos
  go_enter Try.func77, Try.ntmps77
  go_wp2_with fail
  go_loopw [1, 5] (fun xv iv wr => ∃ x i : Nat, ∃ D : List Nat, i ≤ 9 ∧ xv = .int .u64 (x : Int) ∧ iv = .int .i64 (i : Int) ∧ x < 128 ^ (10 - i) ∧ D ++ uv (9 - i) x = uv 9 X ∧ D.length = i ∧ Own w0 wr g (A ++ D ++ List.replicate (R - i) 0)) (fun xv _ _ => (intOf xv).toNat)
  case atStart =>
    exact ⟨X, 0, [], by omega, rfl, rfl, Nat.lt_of_lt_of_le hX (by decide), rfl, rfl, by simpa using HO.out⟩
  case round =>
    obtain ⟨x, i, D, hi, rfl, rfl, hx, he, hD, hown⟩ := hrel
    have HXB := Lib.hid hx
    have HEE := Lib.hid he
    have HDL := Lib.hid hD
    have hx64 : x < 18446744073709551616 * 64 := Nat.lt_of_lt_of_le hx (Nat.le_trans (Nat.pow_le_pow_right (by omega) (show 10 - i ≤ 10 by omega)) (by decide))
    have hlen : (A ++ D).length = pos + i := by rw [List.length_append, hD, ← HP.out]
    have c0 : wr.cell? ⟨g, pos + i, none⟩ = some (.int .u8 (((A ++ D ++ List.replicate (R - i) 0).getD (pos + i) 0 : Nat) : Int)) := hown.cell (by rw [List.length_append, hlen, List.length_replicate]; omega)
    obtain ⟨c, hc⟩ : ∃ c, c = (A ++ D ++ List.replicate (R - i) 0).getD (pos + i) 0 := ⟨_, rfl⟩
    rw [← hc] at c0
    have f0 : wr.frozen? ⟨g, pos + i, none⟩ = false := hown.frozen
    have HOW := Lib.hid (show ∀ v : Nat, Own w0 (wr.setCell ⟨g, pos + i, none⟩ (.int .u8 (v : Int))) g (A ++ (D ++ [v]) ++ List.replicate (R - (i + 1)) 0) from fun v => by
      have h1 := hown
      rw [show R - i = (R - (i + 1)) + 1 by omega] at h1
      have := h1.set v hlen.symm
      rwa [List.append_assoc A D [v]] at this)
    clear hx he hD hown hc hlen
    by_cases h128 : 128 ≤ x
    · have hor := or128 x
      obtain ⟨q, hq⟩ : ∃ q, q = x % 128 + 128 := ⟨_, rfl⟩
      rw [← hq] at hor
      obtain ⟨r, hr⟩ : ∃ r, r = x / 128 := ⟨_, rfl⟩
      have hrx : (x : Int) / 128 = (r : Int) := by omega
      have hrlt : r < x := by omega
      have HQ := Lib.hid hq
      have HR := Lib.hid hr
      clear hq hr
      go_wp2_with fail
      go_roundw
      case rel =>
        have hm9 : i ≠ 9 := by
          intro h
          have := HXB.out
          rw [h] at this
          simp at this
          omega
        refine ⟨r, i + 1, D ++ [q], by omega, rfl, by go_num, ?_, ?_, by rw [List.length_append, HDL.out]; rfl, HOW.out q⟩
        · have := HXB.out
          rw [show 10 - i = (10 - (i + 1)) + 1 by omega, Nat.pow_succ] at this
          rw [HR.out]
          exact Nat.div_lt_of_lt_mul (by rw [Nat.mul_comm]; exact this)
        · have := HEE.out
          rw [show 9 - i = (9 - (i + 1)) + 1 by omega, uv_big (by omega)] at this
          rw [← this, HQ.out, HR.out, List.append_assoc]
          rfl
      case measure => simp [intOf]; omega
    · have hxx : (x : Int) % 256 = (x : Int) := by omega
      have hx128 : x < 128 := by omega
      go_wp2_with fail
      go_ret
      have he := HEE.out
      rw [uv_small hx128] at he
      have hl2 : (uv 9 X).length = i + 1 := by rw [← he, List.length_append, HDL.out]; rfl
      have := HOW.out x
      rw [he] at this
      rw [hl2]
      exact ⟨rfl, this⟩

theorem putVarint (w0 w : World) (g pos R : Nat) (d : Int) (A : List Nat) (hO : Own w0 w g (A ++ List.replicate R 0)) (hpos : pos = A.length) (hR : 10 ≤ R) (hR2 : R ≤ 1000000) (hd : I64 d) :
    Calls Try.prog 68 #[.slice (some ⟨g, pos, none⟩) R R, .int .i64 d] w fun e w' => e = .returned (.int .i64 (((enc d).length : Nat) : Int)) ∧ Own w0 w' g (A ++ enc d ++ List.replicate (R - (enc d).length) 0) := by
  have K := Lib.hid (putUvarint w0 w g pos R (zz d) A hO hpos hR hR2 (zz_lt hd))
  have zneg := fun hn => zz_neg hd hn
  have zpos : ¬ d < 0 → d * 2 = ((zz d : Nat) : Int) := fun h => by obtain ⟨h1, h2⟩ := hd; unfold zz; rw [if_neg h]; omega
  have hZl := zz_lt hd
  obtain ⟨h1, h2⟩ := hd
  obtain ⟨Z, hZ⟩ : ∃ Z, Z = zz d := ⟨_, rfl⟩
  unfold enc
  rw [← hZ] at K zneg zpos hZl ⊢
  clear hO hpos hZ
  by_cases hneg : d < 0
  · have hz := zneg hneg
    clear zneg zpos
    go_enter Try.func68, Try.ntmps68
    go_wp2_with (go_at_call 77; (with_reducible refine K.out.mono ?_); rintro e w1 ⟨rfl, hO1⟩)
    go_ret
    exact ⟨rfl, hO1⟩
  · have hz := zpos hneg
    clear zneg zpos
    go_enter Try.func68, Try.ntmps68
    go_wp2_with (go_at_call 77; (with_reducible refine K.out.mono ?_); rintro e w1 ⟨rfl, hO1⟩)
    go_ret
    exact ⟨rfl, hO1⟩
end Go.Proofs.Ytegohkgmamnkdaa.Cnt
