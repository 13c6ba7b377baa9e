/- Numbers written as bytes of seven bits into a buffer: PutUvarint, PutVarint, walked. Condition: ten bytes of room. -/
import Derived.Test.YtbenpkonepfipaaCnt2
set_option linter.unusedVariables false
namespace Go.Proofs.Ytbenpkonepfipaa.Cnt
open Go.ChangeShapes Go.WideShapes Go.ChangeAt Go.RowKit
open Go.Proofs.Ytbenpkonepfipaa.Dig Go.Proofs.Ytbenpkonepfipaa.Mem Go.Proofs.Ytbenpkonepfipaa.Rb Go.Proofs.Ytbenpkonepfipaa.Var

/-- A block of the call's own that holds bytes. -/
structure Own (w0 w : World) (g : Nat) (xs : List Nat) : Prop where
  row : w.heap[g]? = some (.cells (bs xs).toArray 5 (0, 0))
  bel : Below w0.heap.size w0 w
  hg : w0.heap.size ≤ g
theorem Own.cell {w0 w : World} {g i : Nat} {xs : List Nat} (h : Own w0 w g xs) (hi : i < xs.length) : w.cell? ⟨g, i, none⟩ = some (.int .u8 ((xs.getD i 0 : Nat) : Int)) := by
  simp only [World.cell?, h.row]
  simpa using bs_get hi
theorem Own.frozen {w0 w : World} {g i : Nat} {xs : List Nat} (h : Own w0 w g xs) : w.frozen? ⟨g, i, none⟩ = false := by simp [World.frozen?, h.row]
theorem Own.set {w0 w : World} {g p r : Nat} {L : List Nat} (h : Own w0 w g (L ++ List.replicate (r + 1) 0)) (v : Nat) (hp : p = L.length) : Own w0 (w.setCell ⟨g, p, none⟩ (.int .u8 (v : Int))) g (L ++ [v] ++ List.replicate r 0) := by
  subst hp
  refine ⟨?_, h.bel.setCell h.hg _, h.hg⟩
  simp [World.setCell, Array.getElem?_modify, h.row, bs, List.replicate_succ]

set_option maxRecDepth 100000 in
set_option maxHeartbeats 1000000 in
theorem putUvarint (w0 w : World) (g pos R X : Nat) (A : List Nat) (hO : Own w0 w g (A ++ List.replicate R 0)) (hpos : pos = A.length) (hR : 10 ≤ R) (hR2 : R ≤ 1000000) (hX : X < 18446744073709551616) :
    Calls Try.prog 80 #[.slice (some ⟨g, pos, none⟩) R R, .int .u64 (X : Int)] w fun e w' => e = .returned (.int .i64 (((uv 9 X).length : Nat) : Int)) ∧ Own w0 w' g (A ++ uv 9 X ++ List.replicate (R - (uv 9 X).length) 0) := by
  have HO := Lib.hid hO
  have HP := Lib.hid hpos
  clear hO hpos
  go_enter Try.func80, Try.ntmps80
  go_wp2_with fail
  go_loopw [1, 5] (fun xv iv wr => ∃ x i : Nat, ∃ D : List Nat, i ≤ 9 ∧ xv = .int .u64 (x : Int) ∧ iv = .int .i64 (i : Int) ∧ x < 128 ^ (10 - i) ∧ D ++ uv (9 - i) x = uv 9 X ∧ D.length = i ∧ Own w0 wr g (A ++ D ++ List.replicate (R - i) 0)) (fun xv _ _ => (intOf xv).toNat)
  case atStart =>
    exact ⟨X, 0, [], by omega, rfl, rfl, Nat.lt_of_lt_of_le hX (by decide), rfl, rfl, by simpa using HO.out⟩
  case round =>
    obtain ⟨x, i, D, hi, rfl, rfl, hx, he, hD, hown⟩ := hrel
    have HXB := Lib.hid hx
    have HEE := Lib.hid he
    have HDL := Lib.hid hD
    have hx64 : x < 18446744073709551616 * 64 := Nat.lt_of_lt_of_le hx (Nat.le_trans (Nat.pow_le_pow_right (by omega) (show 10 - i ≤ 10 by omega)) (by decide))
    have hlen : (A ++ D).length = pos + i := by rw [List.length_append, hD, ← HP.out]
    have c0 : wr.cell? ⟨g, pos + i, none⟩ = some (.int .u8 (((A ++ D ++ List.replicate (R - i) 0).getD (pos + i) 0 : Nat) : Int)) := hown.cell (by rw [List.length_append, hlen, List.length_replicate]; omega)
    obtain ⟨c, hc⟩ : ∃ c, c = (A ++ D ++ List.replicate (R - i) 0).getD (pos + i) 0 := ⟨_, rfl⟩
    rw [← hc] at c0
    have f0 : wr.frozen? ⟨g, pos + i, none⟩ = false := hown.frozen
    have HOW := Lib.hid (show ∀ v : Nat, Own w0 (wr.setCell ⟨g, pos + i, none⟩ (.int .u8 (v : Int))) g (A ++ (D ++ [v]) ++ List.replicate (R - (i + 1)) 0) from fun v => by
      have h1 := hown
      rw [show R - i = (R - (i + 1)) + 1 by omega] at h1
      have := h1.set v hlen.symm
      rwa [List.append_assoc A D [v]] at this)
    clear hx he hD hown hc hlen
    by_cases h128 : 128 ≤ x
    · have hor := or128 x
      obtain ⟨q, hq⟩ : ∃ q, q = x % 128 + 128 := ⟨_, rfl⟩
      rw [← hq] at hor
      obtain ⟨r, hr⟩ : ∃ r, r = x / 128 := ⟨_, rfl⟩
      have hrx : (x : Int) / 128 = (r : Int) := by omega
      have hrlt : r < x := by omega
      have HQ := Lib.hid hq
      have HR := Lib.hid hr
      clear hq hr
      go_wp2_with fail
      go_roundw
      case rel =>
        have hm9 : i ≠ 9 := by
          intro h
          have := HXB.out
          rw [h] at this
          simp at this
          omega
        refine ⟨r, i + 1, D ++ [q], by omega, rfl, by go_num, ?_, ?_, by rw [List.length_append, HDL.out]; rfl, HOW.out q⟩
        · have := HXB.out
          rw [show 10 - i = (10 - (i + 1)) + 1 by omega, Nat.pow_succ] at this
          rw [HR.out]
          exact Nat.div_lt_of_lt_mul (by rw [Nat.mul_comm]; exact this)
        · have := HEE.out
          rw [show 9 - i = (9 - (i + 1)) + 1 by omega, uv_big (by omega)] at this
          rw [← this, HQ.out, HR.out, List.append_assoc]
          rfl
      case measure => simp [intOf]; omega
    · have hxx : (x : Int) % 256 = (x : Int) := by omega
      have hx128 : x < 128 := by omega
      go_wp2_with fail
      go_ret
      have he := HEE.out
      rw [uv_small hx128] at he
      have hl2 : (uv 9 X).length = i + 1 := by rw [← he, List.length_append, HDL.out]; rfl
      have := HOW.out x
      rw [he] at this
      rw [hl2]
      exact ⟨rfl, this⟩

theorem putVarint (w0 w : World) (g pos R : Nat) (d : Int) (A : List Nat) (hO : Own w0 w g (A ++ List.replicate R 0)) (hpos : pos = A.length) (hR : 10 ≤ R) (hR2 : R ≤ 1000000) (hd : I64 d) :
    Calls Try.prog 76 #[.slice (some ⟨g, pos, none⟩) R R, .int .i64 d] w fun e w' => e = .returned (.int .i64 (((enc d).length : Nat) : Int)) ∧ Own w0 w' g (A ++ enc d ++ List.replicate (R - (enc d).length) 0) := by
  have K := Lib.hid (putUvarint w0 w g pos R (zz d) A hO hpos hR hR2 (zz_lt hd))
  have zneg := fun hn => zz_neg hd hn
  have zpos : ¬ d < 0 → d * 2 = ((zz d : Nat) : Int) := fun h => by obtain ⟨h1, h2⟩ := hd; unfold zz; rw [if_neg h]; omega
  have hZl := zz_lt hd
  obtain ⟨h1, h2⟩ := hd
  obtain ⟨Z, hZ⟩ : ∃ Z, Z = zz d := ⟨_, rfl⟩
  unfold enc
  rw [← hZ] at K zneg zpos hZl ⊢
  clear hO hpos hZ
  by_cases hneg : d < 0
  · have hz := zneg hneg
    clear zneg zpos
    go_enter Try.func76, Try.ntmps76
    go_wp2_with (go_at_call 80; (with_reducible refine K.out.mono ?_); rintro e w1 ⟨rfl, hO1⟩)
    go_ret
    exact ⟨rfl, hO1⟩
  · have hz := zpos hneg
    clear zneg zpos
    go_enter Try.func76, Try.ntmps76
    go_wp2_with (go_at_call 80; (with_reducible refine K.out.mono ?_); rintro e w1 ⟨rfl, hO1⟩)
    go_ret
    exact ⟨rfl, hO1⟩
end Go.Proofs.Ytbenpkonepfipaa.Cnt
