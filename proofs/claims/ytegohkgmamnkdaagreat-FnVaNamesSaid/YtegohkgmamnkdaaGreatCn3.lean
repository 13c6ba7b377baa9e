/- The numbers of subtrees read back, walked. Condition: that the bytes are those of such numbers. -/
import Derived.Test.YtegohkgmamnkdaaGreatCn1
import Derived.Laws.DeepNot64
set_option linter.unusedVariables false
namespace Go.Proofs.YtegohkgmamnkdaaGreat.Cnt
open Go.ChangeShapes Go.WideShapes Go.ChangeAt Go.RowKit
open Go.Proofs.YtegohkgmamnkdaaGreat.Dig Go.Proofs.YtegohkgmamnkdaaGreat.Mem Go.Proofs.YtegohkgmamnkdaaGreat.Rb Go.Proofs.YtegohkgmamnkdaaGreat.Var

theorem or_add (x y k : Nat) (hx : x < 2 ^ k) (h : x + y * 2 ^ k < 18446744073709551616) : bits .or .u64 (x : Int) (IntKind.u64.wrap ((y : Int) * 2 ^ k)) = ((x + y * 2 ^ k : Nat) : Int) := by
  have e : (y : Int) * 2 ^ k = ((y * 2 ^ k : Nat) : Int) := by simp
  rw [e, IntKind.wrap_u64, show ((y * 2 ^ k : Nat) : Int) % 18446744073709551616 = ((y * 2 ^ k : Nat) : Int) by omega, u64_or_nat _ _ (by omega) (by omega)]
  congr 1
  rw [Nat.or_comm, Nat.mul_comm y, ← Nat.two_pow_add_eq_or_of_lt hx]
  omega
theorem and127 : ∀ q : Fin 256, bits .and .u8 ((q.val : Nat) : Int) 127 = ((q.val % 128 : Nat) : Int) := by decide +kernel

set_option maxRecDepth 100000 in
set_option maxHeartbeats 1000000 in
theorem uvarint (w : World) (a : Option Addr) (n c X L : Nat) (rest : List Nat) (hr : RB w a n c (uv 9 X ++ rest)) (hX : X < 18446744073709551616) (hL : L = (uv 9 X).length) (hn : n ≤ 100000) :
    Calls Tryz.prog 189 #[.slice a n c] w fun e w' => e = .returned (.tuple #[.int .u64 (X : Int), .int .i64 (L : Int)]) ∧ w = w' := by
  have hl := hr.len
  rw [List.length_append] at hl
  have hp := uv_pos 9 X
  obtain ⟨b, o, rfl, hb⟩ := hr.at_ (by omega)
  have HB := Lib.hid hb
  have HLN := Lib.hid hl
  have HL := Lib.hid hL
  clear hr hb hl hL hp
  go_enter Tryz.func189, Tryz.ntmps189
  go_wp2_with fail
  go_loopw [4, 5, 10] (fun xv sv iv wr => ∃ j y x : Nat, ∃ D : List Nat, j ≤ 9 ∧ iv = .int .i64 (j : Int) ∧ sv = .int .u64 ((7 * j : Nat) : Int) ∧ xv = .int .u64 (x : Int) ∧ D ++ uv (9 - j) y = uv 9 X ∧ D.length = j ∧ y < 128 ^ (10 - j) ∧ X = x + y * 2 ^ (7 * j) ∧ x < 2 ^ (7 * j) ∧ wr = w) (fun _ _ iv _ => 10 - (intOf iv).toNat)
  case atStart =>
    exact ⟨0, X, 0, [], by omega, rfl, rfl, rfl, rfl, rfl, Nat.lt_of_lt_of_le hX (by decide), by simp, by simp, rfl⟩
  case round =>
    obtain ⟨j, y, x, D, hj, rfl, rfl, rfl, he, hD, hy, hXe, hx, rfl⟩ := hrel
    have hul : (uv 9 X).length = j + (uv (9 - j) y).length := by rw [← he, List.length_append, hD]
    have hup := uv_pos (9 - j) y
    have hjn : j < n := by have := HLN.out; omega
    obtain ⟨q, hq⟩ : ∃ q, q = (uv 9 X ++ rest).getD j 0 := ⟨_, rfl⟩
    have gq : wr.cell? ⟨b, o + j, none⟩ = some (.int .u8 (q : Int)) := by rw [hq]; exact HB.out j (by rw [List.length_append]; omega)
    have hqe : q = (uv (9 - j) y ++ rest).getD 0 0 := by
      rw [hq, ← he, List.append_assoc]
      simp only [List.getD_eq_getElem?_getD]
      rw [List.getElem?_append_right (by omega), hD, Nat.sub_self]
    have HE := Lib.hid he
    have HD := Lib.hid hD
    have HY := Lib.hid hy
    have HXE := Lib.hid hXe
    have HXX := Lib.hid hx
    have HUL := Lib.hid hul
    have h10 : ((j : Int) == 10) = false := by rw [beq_eq_false_iff_ne]; omega
    by_cases hy128 : y < 128
    · have hqy : q = y := by rw [hqe, uv_small hy128]; rfl
      subst hqy
      have hL1 : L = j + 1 := by rw [HL.out, HUL.out, uv_small hy128]; rfl
      have hor := or_add x q (7 * j) hx (by omega)
      rw [← hXe] at hor
      have hj9 : j = 9 → q ≤ 1 := fun h => by rw [h] at hXe; omega
      have HL1 := Lib.hid hL1
      clear he hD hy hXe hul hup hq hqe hL1 hx
      by_cases h9 : j = 9
      · have hq1 : ¬ (1 : Int) < (q : Int) := by have := hj9 h9; omega
        subst h9
        have hor2 : bits .or .u64 (x : Int) ((q : Int) * 9223372036854775808) = (X : Int) := by
          rw [← hor]
          congr 1
          rw [IntKind.wrap_u64]
          have e : (2 : Int) ^ (7 * 9) = 9223372036854775808 := by decide
          rw [e]
          omega
        clear hj9 hor
        go_wp2_with fail
        refine bodyPost_ret (results_tmp2 rfl _ _ _) rfl ?_
        have := HL1.out
        subst this
        exact ⟨rfl, rfl⟩
      · have h9' : ((j : Int) == 9) = false := by rw [beq_eq_false_iff_ne]; omega
        clear hj9
        go_wp2_with fail
        refine bodyPost_ret (results_tmp2 rfl _ _ _) rfl ?_
        have := HL1.out
        subst this
        exact ⟨rfl, rfl⟩
    · have hj8 : j ≠ 9 := by
        intro h
        rw [h] at hy
        simp at hy
        omega
      have hqy : q = y % 128 + 128 := by
        rw [hqe, show 9 - j = (9 - (j + 1)) + 1 by omega, uv_big hy128]; rfl
      have hand := and127 ⟨q, by omega⟩
      simp only at hand
      obtain ⟨r, hr⟩ : ∃ r, r = y % 128 := ⟨_, rfl⟩
      rw [show q % 128 = r by omega] at hand
      have hyr : y * 2 ^ (7 * j) = r * 2 ^ (7 * j) + y / 128 * 2 ^ (7 * (j + 1)) := by
        have e : 2 ^ (7 * (j + 1)) = 128 * 2 ^ (7 * j) := by rw [show 7 * (j + 1) = 7 * j + 7 by omega, Nat.pow_add]; omega
        rw [e, ← Nat.mul_assoc, ← Nat.add_mul]
        congr 1
        omega
      have hor := or_add x r (7 * j) hx (by omega)
      obtain ⟨x', hx'⟩ : ∃ x', x' = x + r * 2 ^ (7 * j) := ⟨_, rfl⟩
      rw [← hx'] at hor
      have hxb : x' < 2 ^ (7 * (j + 1)) := by
        have e : 2 ^ (7 * (j + 1)) = 128 * 2 ^ (7 * j) := by rw [show 7 * (j + 1) = 7 * j + 7 by omega, Nat.pow_add]; omega
        have h2 : r * 2 ^ (7 * j) ≤ 127 * 2 ^ (7 * j) := Nat.mul_le_mul_right _ (by omega)
        rw [hx', e]; omega
      have hXn : X = x' + y / 128 * 2 ^ (7 * (j + 1)) := by rw [hXe, hx', hyr]; omega
      have hen : (D ++ [q]) ++ uv (9 - (j + 1)) (y / 128) = uv 9 X := by
        rw [← he, show 9 - j = (9 - (j + 1)) + 1 by omega, uv_big hy128, hqy, List.append_assoc]; rfl
      have hyn : y / 128 < 128 ^ (10 - (j + 1)) := by
        rw [show 10 - j = (10 - (j + 1)) + 1 by omega, Nat.pow_succ] at hy
        exact Nat.div_lt_of_lt_mul (by rw [Nat.mul_comm]; exact hy)
      have hq128 : ¬ q < 128 := by omega
      have HXB := Lib.hid hxb
      have HXN := Lib.hid hXn
      have HEN := Lib.hid hen
      have HYN := Lib.hid hyn
      have hrb : r < 128 := by omega
      clear he hD hy hXe hx hul hup hq hqe hxb hXn hen hyn hyr hqy hr hx'
      go_wp2_with fail
      go_roundw
      case rel => exact ⟨j + 1, y / 128, x', D ++ [q], by omega, by go_num, by go_num, rfl, HEN.out, by rw [List.length_append, HD.out]; rfl, HYN.out, HXN.out, HXB.out, trivial⟩
      case measure => simp [intOf]; omega

theorem unzz_pos {d : Int} (h : I64 d) (hn : ¬ d < 0) : bits .and .u64 ((zz d : Nat) : Int) 1 = 0 ∧ IntKind.i64.wrap (((zz d : Nat) : Int) / 2) = d := by
  have hz := zz_lt h
  obtain ⟨h1, h2⟩ := h
  refine ⟨?_, ?_⟩
  · rw [show (1 : Int) = ((1 : Nat) : Int) from rfl, u64_and_nat _ _ hz (by omega), nat_mask1]
    unfold zz
    rw [if_neg hn]; omega
  · rw [IntKind.wrap_i64]; unfold zz; rw [if_neg hn]; omega
theorem unzz_neg {d : Int} (h : I64 d) (hn : d < 0) : bits .and .u64 ((zz d : Nat) : Int) 1 = 1 ∧ IntKind.i64.wrap (((zz d : Nat) : Int) / 2) = - d - 1 := by
  have hz := zz_lt h
  obtain ⟨h1, h2⟩ := h
  refine ⟨?_, ?_⟩
  · rw [show (1 : Int) = ((1 : Nat) : Int) from rfl, u64_and_nat _ _ hz (by omega), nat_mask1]
    unfold zz
    rw [if_pos hn]; omega
  · rw [IntKind.wrap_i64]; unfold zz; rw [if_pos hn]; omega

set_option maxRecDepth 100000 in
theorem varintRead (w : World) (a : Option Addr) (n c L : Nat) (d : Int) (rest : List Nat) (hr : RB w a n c (enc d ++ rest)) (hd : I64 d) (hL : L = (enc d).length) (hn : n ≤ 100000) :
    Calls Tryz.prog 188 #[.slice a n c] w fun e w' => e = .returned (.tuple #[.int .i64 d, .int .i64 (L : Int)]) ∧ w = w' := by
  have K := Lib.hid (uvarint w a n c (zz d) L rest hr (zz_lt hd) hL hn)
  have hzl := zz_lt hd
  have u1 := fun hn => unzz_pos hd hn
  have u2 := fun hn => unzz_neg hd hn
  obtain ⟨d1, d2⟩ := hd
  obtain ⟨Z, hZ⟩ : ∃ Z, Z = zz d := ⟨_, rfl⟩
  rw [← hZ] at K u1 u2 hzl
  clear hr hL hZ
  by_cases hneg : d < 0
  · obtain ⟨b1, b2⟩ := u2 hneg
    have b3 : bits .xor .i64 (-1) (-d - 1) = d := by
      have := i64_not (-d - 1).toNat (by omega)
      rw [show (((-d - 1).toNat : Nat) : Int) = -d - 1 by omega] at this
      rw [this]; omega
    clear u1 u2
    go_enter Tryz.func188, Tryz.ntmps188
    go_wp2_with (go_at_call 189; (with_reducible refine K.out.mono ?_); rintro e w1 ⟨rfl, rfl⟩)
    refine bodyPost_ret (results_tmp2 rfl _ _ _) rfl ?_
    exact ⟨rfl, rfl⟩
  · obtain ⟨b1, b2⟩ := u1 hneg
    clear u1 u2
    go_enter Tryz.func188, Tryz.ntmps188
    go_wp2_with (go_at_call 189; (with_reducible refine K.out.mono ?_); rintro e w1 ⟨rfl, rfl⟩)
    refine bodyPost_ret (results_tmp2 rfl _ _ _) rfl ?_
    exact ⟨rfl, rfl⟩

def us (xs : List Nat) : List Value := xs.map fun (x : Nat) => Value.int .u64 (x : Int)
theorem us_get {xs : List Nat} {i : Nat} (h : i < xs.length) : (us xs)[i]? = some (.int .u64 ((xs.getD i 0 : Nat) : Int)) := by
  simp [us, List.getElem?_eq_getElem h]
structure OwnU (w0 w : World) (g : Nat) (xs : List Nat) : Prop where
  row : w.heap[g]? = some (.cells (us xs).toArray 33 (0, 0))
  bel : Below w0.heap.size w0 w
  hg : w0.heap.size ≤ g
theorem OwnU.cell {w0 w : World} {g i : Nat} {xs : List Nat} (h : OwnU w0 w g xs) (hi : i < xs.length) : w.cell? ⟨g, i, none⟩ = some (.int .u64 ((xs.getD i 0 : Nat) : Int)) := by
  simp only [World.cell?, h.row]
  simpa using us_get hi
theorem OwnU.frozen {w0 w : World} {g i : Nat} {xs : List Nat} (h : OwnU w0 w g xs) : w.frozen? ⟨g, i, none⟩ = false := by simp [World.frozen?, h.row]
theorem OwnU.set {w0 w : World} {g p r : Nat} {L : List Nat} (h : OwnU w0 w g (L ++ List.replicate (r + 1) 0)) (v : Nat) (hp : p = L.length) : OwnU w0 (w.setCell ⟨g, p, none⟩ (.int .u64 (v : Int))) g (L ++ [v] ++ List.replicate r 0) := by
  subst hp
  refine ⟨?_, h.bel.setCell h.hg _, h.hg⟩
  simp [World.setCell, Array.getElem?_modify, h.row, us, List.replicate_succ]

theorem cutA_l (a : Option Addr) (n c lo : Nat) (h : lo ≤ n) : ∀ w, (Instr.slice 26 (.slice a n c) (some (.int .i64 (lo : Int))) none none).run Tryz.prog w = .ok (.slice (cutA a c lo) (n - lo) (c - lo)) w := fun w => by
  have he : Tryz.prog.underlying 26 = some (.slice (Tryz.prog.elem 26)) := by rw [Msg.el26]; exact Tryz.underlying26
  have hs : (sizeOf (Tryz.prog.elem 26)).run Tryz.prog w = .ok 1 w := by rw [Msg.el26]; exact Msg.u8size w
  rw [run_slice_l w 26 a n c he .i64 (lo : Int) (by omega) (by omega), hs]
  simp [Result.andThen, sliced, cutA]

theorem assertTrue (w : World) : Calls Tryz.prog 63 #[.bool true] w fun e w' => e = .returned (.tuple #[]) ∧ w = w' := by
  go_enter Tryz.func63, Tryz.ntmps63
  go_wp2
  go_end0
  exact ⟨rfl, rfl⟩
theorem wrap_add (x p : Nat) : Go.RowKit.wrap64 (Go.RowKit.wrap64 (p : Int) + sd x p) = Go.RowKit.wrap64 (x : Int) := by
  unfold sd wrap64
  rw [IntKind.wrap_i64]; omega
theorem u64_back (x : Nat) (h : x < 18446744073709551616) : IntKind.u64.wrap (Go.RowKit.wrap64 (x : Int)) = (x : Int) := by
  rw [IntKind.wrap_u64]; unfold wrap64; omega

set_option maxRecDepth 100000 in
set_option maxHeartbeats 1000000 in
theorem decodeDeltas (w0 w : World) (g N : Nat) (a : Option Addr) (n c : Nat) (ls : List Nat) (hl : ls.length = N) (hN : N ≤ 300) (hn : n ≤ 100000) (hb : ∀ x ∈ ls, x < 18446744073709551616) (hr : RB w0 a n c (encs 0 ls))
    (hO : OwnU w0 w g (List.replicate N 0)) :
    Calls Tryz.prog 185 #[.slice a n c, .slice (some ⟨g, 0, none⟩) N N] w fun e w' => e = .returned (.slice (some ⟨g, 0, none⟩) N N) ∧ OwnU w0 w' g ls := by
  have HL := Lib.hid hl
  have HB := Lib.hid hb
  have HR := Lib.hid hr
  have HO := Lib.hid hO
  have z0 : Go.RowKit.wrap64 0 = 0 := by simp [Go.RowKit.wrap64]
  have Z0 := Lib.hid z0
  clear hl hb hr hO z0
  go_enter Tryz.func185, Tryz.ntmps185
  go_wp2_with fail
  go_loopw [0, 5, 12] (fun bv lv iv wr => ∃ k : Nat, ∃ q : Int, ∃ a' n' c', k ≤ N ∧ n' ≤ 100000 ∧ iv = .int .i64 k ∧ bv = .slice a' n' c' ∧ lv = .int .i64 q ∧ q = Go.RowKit.wrap64 ((lastOf 0 (ls.take k) : Nat) : Int) ∧ RB w0 a' n' c' (encs (lastOf 0 (ls.take k)) (ls.drop k)) ∧ OwnU w0 wr g (ls.take k ++ List.replicate (N - k) 0)) (fun _ _ iv _ => N - (intOf iv).toNat)
  case atStart => exact ⟨0, 0, a, n, c, by omega, hn, rfl, rfl, rfl, by rw [List.take_zero]; exact Z0.out.symm, by simpa [lastOf] using HR.out, by simpa using HO.out⟩
  case round =>
    obtain ⟨k, q, a', n', c', hk, hn', rfl, rfl, rfl, hq, hrb, hown⟩ := hrel
    have hle := hrb.le
    have htop := hrb.top
    unfold maxLen at htop
    by_cases hlt : k < N
    · obtain ⟨x, hx⟩ : ∃ x, x = ls.getD k 0 := ⟨_, rfl⟩
      have hx64 : x < 18446744073709551616 := by rw [hx]; exact getD_lt HB.out (by rw [HL.out]; exact hlt)
      obtain ⟨p, hp⟩ : ∃ p, p = lastOf 0 (ls.take k) := ⟨_, rfl⟩
      rw [← hp] at hq hrb
      have hdrop : ls.drop k = x :: ls.drop (k + 1) := by
        rw [List.drop_eq_getElem_cons (by rw [HL.out]; exact hlt), hx, List.getD_eq_getElem?_getD, List.getElem?_eq_getElem (by rw [HL.out]; exact hlt)]; rfl
      rw [hdrop] at hrb
      simp only [encs] at hrb
      obtain ⟨D, hD⟩ : ∃ D, D = sd x p := ⟨_, rfl⟩
      rw [← hD] at hrb
      obtain ⟨L, hL⟩ : ∃ L, L = (enc D).length := ⟨_, rfl⟩
      have hLn : L ≤ n' := by have := hrb.len; rw [List.length_append] at this; omega
      have K77 := Lib.hid (varintRead wr a' n' c' L D _ (hrb.below hown.bel (Nat.le_refl _)) (by rw [hD]; exact sd_i64 _ _) hL hn')
      have hcut := cutA_l a' n' c' L hLn
      have hrb2 := hrb.cut hLn (Nat.le_refl _)
      rw [hL, List.drop_left, List.take_of_length_le (by have := hrb.len; rw [List.length_append] at this; omega), ← hL] at hrb2
      have HR2 := Lib.hid hrb2
      have w1 : Go.RowKit.wrap64 (q + D) = Go.RowKit.wrap64 (x : Int) := by rw [hq, hD]; exact wrap_add _ _
      have hlen : (ls.take k).length = k := by rw [List.length_take, HL.out]; omega
      have gx := hown.cell (i := k) (by rw [List.length_append, hlen, List.length_replicate]; omega)
      obtain ⟨cc, hcc⟩ : ∃ cc, cc = (ls.take k ++ List.replicate (N - k) 0).getD k 0 := ⟨_, rfl⟩
      rw [← hcc] at gx
      have fx : wr.frozen? ⟨g, k, none⟩ = false := hown.frozen
      have w2 := u64_back x hx64
      have HOW := Lib.hid (show OwnU w0 (wr.setCell ⟨g, k, none⟩ (.int .u64 (x : Int))) g (ls.take (k + 1) ++ List.replicate (N - (k + 1)) 0) from by
        have h1 := hown
        rw [show N - k = (N - (k + 1)) + 1 by omega] at h1
        have := h1.set x hlen.symm
        rwa [take_more (by rw [HL.out]; exact hlt), ← hx])
      have HX := Lib.hid hx
      have HP := Lib.hid hp
      have W1 := Lib.hid w1
      clear hx hp hq hrb hdrop hD hL hrb2 hlen hcc hown
      go_wp2_with (go_at_call 188; (with_reducible refine K77.out.mono ?_); rintro e w3 ⟨rfl, rfl⟩)
      go_roundw
      case rel =>
        refine ⟨k + 1, Go.RowKit.wrap64 (q + D), cutA a' c' L, n' - L, c' - L, by omega, by omega, by go_num, rfl, rfl, ?_, ?_, HOW.out⟩
        · rw [take_more (by rw [HL.out]; exact hlt), lastOf_snoc, ← HX.out]; exact W1.out
        · rw [take_more (by rw [HL.out]; exact hlt), lastOf_snoc, ← HX.out]; exact HR2.out
      case measure => simp [intOf]; omega
    · obtain rfl : k = N := by omega
      have hlen := hrb.len
      rw [List.drop_of_length_le (by rw [HL.out]; exact Nat.le_refl _)] at hlen
      simp only [encs, List.length_nil] at hlen
      subst hlen
      rw [List.take_of_length_le (by rw [HL.out]; exact Nat.le_refl _), Nat.sub_self, List.replicate_zero, List.append_nil] at hown
      have HO2 := Lib.hid hown
      clear hown hq hrb
      go_wp2_with (go_at_call 63; (with_reducible refine (assertTrue _).mono ?_); rintro e w3 ⟨rfl, rfl⟩)
      go_ret
      exact ⟨rfl, HO2.out⟩

theorem decodeVarints (w0 w : World) (g N : Nat) (a : Option Addr) (n c : Nat) (ls : List Nat) (hl : ls.length = N) (hN : N ≤ 300) (hn : n ≤ 100000) (hb : ∀ x ∈ ls, x < 18446744073709551616) (hr : RB w0 a n c (encs 0 ls))
    (hO : OwnU w0 w g (List.replicate N 0)) :
    Calls Tryz.prog 175 #[.slice a n c, .slice (some ⟨g, 0, none⟩) N N] w fun e w' => e = .returned (.slice (some ⟨g, 0, none⟩) N N) ∧ OwnU w0 w' g ls := by
  have K := Lib.hid (decodeDeltas w0 w g N a n c ls hl hN hn hb hr hO)
  clear hl hN hn hb hr hO
  go_enter Tryz.func175, Tryz.ntmps175
  go_wp2_with (go_at_call 185; (with_reducible refine K.out.mono ?_); rintro e w1 ⟨rfl, h1⟩; have H1 := Lib.hid h1; clear h1)
  go_ret
  exact ⟨rfl, H1.out⟩

theorem info47 : (Tryz.prog.info? 33).map (fun i => (i.zero, i.size, i.bytes)) = some (some (.int .u64 0), 1, 8) := by kernel_rfl
theorem made_us (n : Nat) : madeCells #[Value.int .u64 0] n = (us (List.replicate n 0)).toArray := by
  apply Array.toList_inj.1
  rw [toList_madeCells_one]
  simp [us]

end Go.Proofs.YtegohkgmamnkdaaGreat.Cnt
