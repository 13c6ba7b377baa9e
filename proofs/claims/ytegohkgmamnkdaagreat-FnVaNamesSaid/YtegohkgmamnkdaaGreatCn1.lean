/- Signed numbers as bytes of seven bits; written into a buffer, walked. Condition: ten bytes of room. -/
import Derived.Test.YtegohkgmamnkdaaGreatBld2
import Derived.Test.YtegohkgmamnkdaaGreatVar
import Derived.Deep.OwnRows
import Derived.Laws.OwnMore
set_option linter.unusedVariables false
namespace Go.Proofs.YtegohkgmamnkdaaGreat.Cnt
open Go.ChangeShapes Go.WideShapes Go.ChangeAt Go.RowKit
open Go.Proofs.YtegohkgmamnkdaaGreat.Dig Go.Proofs.YtegohkgmamnkdaaGreat.Mem Go.Proofs.YtegohkgmamnkdaaGreat.Rb Go.Proofs.YtegohkgmamnkdaaGreat.Var

/-- The number of a sign and a size. -/
def zz (d : Int) : Nat := if d < 0 then (-2 * d - 1).toNat else (2 * d).toNat
def enc (d : Int) : List Nat := uv 9 (zz d)
def I64 (d : Int) : Prop := -9223372036854775808 ≤ d ∧ d ≤ 9223372036854775807
theorem zz_lt {d : Int} (h : I64 d) : zz d < 18446744073709551616 := by
  obtain ⟨h1, h2⟩ := h
  unfold zz
  split <;> omega
theorem or128 (x : Nat) : bits .or .u8 ((x : Int) % 256) 128 = ((x % 128 + 128 : Nat) : Int) := by
  have e : (x : Int) % 256 = ((x % 256 : Nat) : Int) := by omega
  rw [e, show (128 : Int) = ((128 : Nat) : Int) from rfl, u8_or_nat _ _ (by omega) (by omega)]
  have h : ∀ y : Fin 256, y.val ||| 128 = y.val % 128 + 128 := by decide +kernel
  have := h ⟨x % 256, by omega⟩
  simp only at this
  rw [this]
  omega
theorem not64 (y : Nat) (h : y < 18446744073709551616) : 18446744073709551615 ^^^ y = 18446744073709551615 - y := by
  have h1 := congrArg BitVec.toNat (BitVec.allOnes_xor (x := BitVec.ofNat 64 y))
  rw [BitVec.toNat_xor, BitVec.toNat_allOnes, BitVec.toNat_not, BitVec.toNat_ofNat, Nat.mod_eq_of_lt (by simpa using h)] at h1
  simpa using h1
theorem zz_neg {d : Int} (h : I64 d) (hn : d < 0) : bits .xor .u64 IntKind.u64.max (IntKind.u64.wrap (IntKind.u64.wrap d * 2)) = ((zz d : Nat) : Int) := by
  obtain ⟨h1, h2⟩ := h
  have e : IntKind.u64.wrap (IntKind.u64.wrap d * 2) = (((2 * d + 18446744073709551616).toNat : Nat) : Int) := by
    rw [IntKind.wrap_u64, IntKind.wrap_u64]; omega
  rw [e, show IntKind.u64.max = ((18446744073709551615 : Nat) : Int) from by decide, u64_xor_nat _ _ (by omega) (by omega), not64 _ (by omega)]
  unfold zz
  rw [if_pos hn]
  omega
theorem zz_pos {d : Int} (h : I64 d) (hn : ¬ d < 0) : IntKind.u64.wrap (IntKind.u64.wrap d * 2) = ((zz d : Nat) : Int) := by
  obtain ⟨h1, h2⟩ := h
  unfold zz
  rw [if_neg hn, IntKind.wrap_u64, IntKind.wrap_u64]; omega
theorem uv_small {k x : Nat} (h : x < 128) : uv k x = [x] := by
  cases k with
  | zero => simp [uv]; omega
  | succ k => unfold uv; rw [if_pos h]
theorem uv_big {k x : Nat} (h : ¬ x < 128) : uv (k + 1) x = (x % 128 + 128) :: uv k (x / 128) := by
  rw [uv, if_neg h]
theorem info5 : (Tryz.prog.info? 5).map (fun i => (i.zero, i.size, i.bytes)) = some (some (.int .u8 0), 1, 1) := by kernel_rfl

/-- The signed difference of two numbers of 64 bits. -/
def sd (x p : Nat) : Int := IntKind.i64.wrap ((x : Int) - (p : Int))
theorem sd_i64 (x p : Nat) : I64 (sd x p) := by
  unfold sd I64
  rw [IntKind.wrap_i64]; omega
theorem sd_wrap (x p : Nat) : Go.RowKit.wrap64 (IntKind.u64.wrap ((x : Int) - (p : Int))) = sd x p := by
  unfold sd wrap64
  rw [IntKind.wrap_i64, IntKind.wrap_u64]; omega
def encs : Nat → List Nat → List Nat
  | _, [] => []
  | p, x :: xs => enc (sd x p) ++ encs x xs
def lastOf : Nat → List Nat → Nat
  | p, [] => p
  | _, x :: xs => lastOf x xs
theorem encs_snoc : ∀ (p : Nat) (xs : List Nat) (x : Nat), encs p (xs ++ [x]) = encs p xs ++ enc (sd x (lastOf p xs))
  | p, [], x => by simp [encs, lastOf]
  | p, y :: ys, x => by simp [encs, lastOf, encs_snoc y ys x]
theorem lastOf_snoc : ∀ (p : Nat) (xs : List Nat) (x : Nat), lastOf p (xs ++ [x]) = x
  | p, [], x => rfl
  | p, y :: ys, x => by simp [lastOf, lastOf_snoc y ys x]
theorem encs_length : ∀ (p : Nat) (xs : List Nat), (encs p xs).length ≤ 10 * xs.length
  | p, [] => by simp [encs]
  | p, y :: ys => by
    have := encs_length y ys
    have := uv_le 9 (zz (sd y p))
    simp only [encs, enc, List.length_append, List.length_cons]; omega
theorem encs_byte : ∀ (p : Nat) (xs : List Nat), ∀ b ∈ encs p xs, b < 256
  | p, [] => by simp [encs]
  | p, y :: ys => by
    intro b hb
    simp only [encs, List.mem_append] at hb
    rcases hb with h | h
    · exact uv_byte 9 _ b h
    · exact encs_byte y ys b h
theorem own_form {w : World} {base n : Nat} {e : TypeId} {v : Value} {xs : List Value} (h : w.ownsRow base e 1 v n xs) : ∃ a c, v = .slice a n c := by
  rcases h.2 with ⟨h0, hn⟩ | ⟨g, cap, cur, hv, _⟩
  · exact ⟨none, 0, by rw [h0]; simp_all⟩
  · exact ⟨_, _, hv⟩
theorem lastOf_lt : ∀ (p : Nat) (xs : List Nat), p < 18446744073709551616 → (∀ x ∈ xs, x < 18446744073709551616) → lastOf p xs < 18446744073709551616
  | p, [], h, _ => h
  | p, y :: ys, _, h => lastOf_lt y ys (h y (List.mem_cons_self ..)) (fun x hx => h x (List.mem_cons_of_mem _ hx))
theorem take_more {cs : List Nat} {k : Nat} (h : k < cs.length) : cs.take (k + 1) = cs.take k ++ [cs.getD k 0] := by
  rw [List.take_succ_eq_append_getElem h, List.getD_eq_getElem?_getD, List.getElem?_eq_getElem h]; rfl
def Nums64 (w : World) (a : Option Addr) (cs : List Nat) : Prop := 0 < cs.length → ∃ b o, a = some ⟨b, o, none⟩ ∧ b < w.heap.size ∧ ∀ i, i < cs.length → w.cell? ⟨b, o + i, none⟩ = some (.int .u64 ((cs.getD i 0 : Nat) : Int))


/-- A block of the call's own that holds bytes. -/
structure Own (w0 w : World) (g : Nat) (xs : List Nat) : Prop where
  row : w.heap[g]? = some (.cells (bs xs).toArray 5 (0, 0))
  bel : Below w0.heap.size w0 w
  hg : w0.heap.size ≤ g
theorem Own.cell {w0 w : World} {g i : Nat} {xs : List Nat} (h : Own w0 w g xs) (hi : i < xs.length) : w.cell? ⟨g, i, none⟩ = some (.int .u8 ((xs.getD i 0 : Nat) : Int)) := by
  simp only [World.cell?, h.row]
  simpa using bs_get hi
theorem Own.frozen {w0 w : World} {g i : Nat} {xs : List Nat} (h : Own w0 w g xs) : w.frozen? ⟨g, i, none⟩ = false := by simp [World.frozen?, h.row]
theorem Own.set {w0 w : World} {g p r : Nat} {L : List Nat} (h : Own w0 w g (L ++ List.replicate (r + 1) 0)) (v : Nat) (hp : p = L.length) : Own w0 (w.setCell ⟨g, p, none⟩ (.int .u8 (v : Int))) g (L ++ [v] ++ List.replicate r 0) := by
  subst hp
  refine ⟨?_, h.bel.setCell h.hg _, h.hg⟩
  simp [World.setCell, Array.getElem?_modify, h.row, bs, List.replicate_succ]

set_option maxRecDepth 100000 in
set_option maxHeartbeats 1000000 in
theorem putUvarint (w0 w : World) (g pos R X : Nat) (A : List Nat) (hO : Own w0 w g (A ++ List.replicate R 0)) (hpos : pos = A.length) (hR : 10 ≤ R) (hR2 : R ≤ 1000000) (hX : X < 18446744073709551616) :
    Calls Tryz.prog 161 #[.slice (some ⟨g, pos, none⟩) R R, .int .u64 (X : Int)] w fun e w' => e = .returned (.int .i64 (((uv 9 X).length : Nat) : Int)) ∧ Own w0 w' g (A ++ uv 9 X ++ List.replicate (R - (uv 9 X).length) 0) := by
  have HO := Lib.hid hO
  have HP := Lib.hid hpos
  clear hO hpos
  go_enter Tryz.func161, Tryz.ntmps161
  go_wp2_with fail
  go_loopw [1, 5] (fun xv iv wr => ∃ x i : Nat, ∃ D : List Nat, i ≤ 9 ∧ xv = .int .u64 (x : Int) ∧ iv = .int .i64 (i : Int) ∧ x < 128 ^ (10 - i) ∧ D ++ uv (9 - i) x = uv 9 X ∧ D.length = i ∧ Own w0 wr g (A ++ D ++ List.replicate (R - i) 0)) (fun xv _ _ => (intOf xv).toNat)
  case atStart =>
    exact ⟨X, 0, [], by omega, rfl, rfl, Nat.lt_of_lt_of_le hX (by decide), rfl, rfl, by simpa using HO.out⟩
  case round =>
    obtain ⟨x, i, D, hi, rfl, rfl, hx, he, hD, hown⟩ := hrel
    have HXB := Lib.hid hx
    have HEE := Lib.hid he
    have HDL := Lib.hid hD
    have hx64 : x < 18446744073709551616 * 64 := Nat.lt_of_lt_of_le hx (Nat.le_trans (Nat.pow_le_pow_right (by omega) (show 10 - i ≤ 10 by omega)) (by decide))
    have hlen : (A ++ D).length = pos + i := by rw [List.length_append, hD, ← HP.out]
    have c0 : wr.cell? ⟨g, pos + i, none⟩ = some (.int .u8 (((A ++ D ++ List.replicate (R - i) 0).getD (pos + i) 0 : Nat) : Int)) := hown.cell (by rw [List.length_append, hlen, List.length_replicate]; omega)
    obtain ⟨c, hc⟩ : ∃ c, c = (A ++ D ++ List.replicate (R - i) 0).getD (pos + i) 0 := ⟨_, rfl⟩
    rw [← hc] at c0
    have f0 : wr.frozen? ⟨g, pos + i, none⟩ = false := hown.frozen
    have HOW := Lib.hid (show ∀ v : Nat, Own w0 (wr.setCell ⟨g, pos + i, none⟩ (.int .u8 (v : Int))) g (A ++ (D ++ [v]) ++ List.replicate (R - (i + 1)) 0) from fun v => by
      have h1 := hown
      rw [show R - i = (R - (i + 1)) + 1 by omega] at h1
      have := h1.set v hlen.symm
      rwa [List.append_assoc A D [v]] at this)
    clear hx he hD hown hc hlen
    by_cases h128 : 128 ≤ x
    · have hor := or128 x
      obtain ⟨q, hq⟩ : ∃ q, q = x % 128 + 128 := ⟨_, rfl⟩
      rw [← hq] at hor
      obtain ⟨r, hr⟩ : ∃ r, r = x / 128 := ⟨_, rfl⟩
      have hrx : (x : Int) / 128 = (r : Int) := by omega
      have hrlt : r < x := by omega
      have HQ := Lib.hid hq
      have HR := Lib.hid hr
      clear hq hr
      go_wp2_with fail
      go_roundw
      case rel =>
        have hm9 : i ≠ 9 := by
          intro h
          have := HXB.out
          rw [h] at this
          simp at this
          omega
        refine ⟨r, i + 1, D ++ [q], by omega, rfl, by go_num, ?_, ?_, by rw [List.length_append, HDL.out]; rfl, HOW.out q⟩
        · have := HXB.out
          rw [show 10 - i = (10 - (i + 1)) + 1 by omega, Nat.pow_succ] at this
          rw [HR.out]
          exact Nat.div_lt_of_lt_mul (by rw [Nat.mul_comm]; exact this)
        · have := HEE.out
          rw [show 9 - i = (9 - (i + 1)) + 1 by omega, uv_big (by omega)] at this
          rw [← this, HQ.out, HR.out, List.append_assoc]
          rfl
      case measure => simp [intOf]; omega
    · have hxx : (x : Int) % 256 = (x : Int) := by omega
      have hx128 : x < 128 := by omega
      go_wp2_with fail
      go_ret
      have he := HEE.out
      rw [uv_small hx128] at he
      have hl2 : (uv 9 X).length = i + 1 := by rw [← he, List.length_append, HDL.out]; rfl
      have := HOW.out x
      rw [he] at this
      rw [hl2]
      exact ⟨rfl, this⟩

theorem putVarint (w0 w : World) (g pos R : Nat) (d : Int) (A : List Nat) (hO : Own w0 w g (A ++ List.replicate R 0)) (hpos : pos = A.length) (hR : 10 ≤ R) (hR2 : R ≤ 1000000) (hd : I64 d) :
    Calls Tryz.prog 128 #[.slice (some ⟨g, pos, none⟩) R R, .int .i64 d] w fun e w' => e = .returned (.int .i64 (((enc d).length : Nat) : Int)) ∧ Own w0 w' g (A ++ enc d ++ List.replicate (R - (enc d).length) 0) := by
  have K := Lib.hid (putUvarint w0 w g pos R (zz d) A hO hpos hR hR2 (zz_lt hd))
  have zneg := fun hn => zz_neg hd hn
  have zpos : ¬ d < 0 → d * 2 = ((zz d : Nat) : Int) := fun h => by obtain ⟨h1, h2⟩ := hd; unfold zz; rw [if_neg h]; omega
  have hZl := zz_lt hd
  obtain ⟨h1, h2⟩ := hd
  obtain ⟨Z, hZ⟩ : ∃ Z, Z = zz d := ⟨_, rfl⟩
  unfold enc
  rw [← hZ] at K zneg zpos hZl ⊢
  clear hO hpos hZ
  by_cases hneg : d < 0
  · have hz := zneg hneg
    clear zneg zpos
    go_enter Tryz.func128, Tryz.ntmps128
    go_wp2_with (go_at_call 161; (with_reducible refine K.out.mono ?_); rintro e w1 ⟨rfl, hO1⟩)
    go_ret
    exact ⟨rfl, hO1⟩
  · have hz := zpos hneg
    clear zneg zpos
    go_enter Tryz.func128, Tryz.ntmps128
    go_wp2_with (go_at_call 161; (with_reducible refine K.out.mono ?_); rintro e w1 ⟨rfl, hO1⟩)
    go_ret
    exact ⟨rfl, hO1⟩
end Go.Proofs.YtegohkgmamnkdaaGreat.Cnt
/- The numbers of subtrees as bytes, walked. Condition: at most 300 numbers. -/
set_option linter.unusedVariables false
namespace Go.Proofs.YtegohkgmamnkdaaGreat.Cnt
open Go.ChangeShapes Go.WideShapes Go.ChangeAt Go.RowKit
open Go.Proofs.YtegohkgmamnkdaaGreat.Dig Go.Proofs.YtegohkgmamnkdaaGreat.Mem Go.Proofs.YtegohkgmamnkdaaGreat.Rb Go.Proofs.YtegohkgmamnkdaaGreat.Var

theorem addr_add (g lo : Nat) : (⟨g, 0, none⟩ : Addr).add lo = ⟨g, lo, none⟩ := by
  unfold Addr.add
  by_cases h : lo = 0
  · subst h; rfl
  · simp [h]
theorem cutL (g N lo k : Nat) (h : lo < N) (hk : N - lo = k) : ∀ w, (Instr.slice 26 (.slice (some ⟨g, 0, none⟩) N N) (some (.int .i64 (lo : Int))) none none).run Tryz.prog w = .ok (.slice (some ⟨g, lo, none⟩) k k) w := fun w => by
  have he : Tryz.prog.underlying 26 = some (.slice (Tryz.prog.elem 26)) := by rw [Msg.el26]; exact Tryz.underlying26
  have hs : (sizeOf (Tryz.prog.elem 26)).run Tryz.prog w = .ok 1 w := by rw [Msg.el26]; exact Msg.u8size w
  rw [run_slice_l w 26 (some ⟨g, 0, none⟩) N N he .i64 (lo : Int) (by omega) (by omega), hs]
  subst hk
  simp [Result.andThen, sliced, addr_add, show ¬ N = lo by omega]
theorem wrap_sub (x p : Nat) : Go.RowKit.wrap64 (Go.RowKit.wrap64 (x : Int) - Go.RowKit.wrap64 (p : Int)) = sd x p := by
  unfold sd wrap64
  rw [IntKind.wrap_i64]; omega

set_option maxRecDepth 100000 in
set_option maxHeartbeats 1000000 in
theorem encodeDeltas (w0 w : World) (g N : Nat) (a : Option Addr) (n c : Nat) (ls : List Nat) (hl : ls.length = n) (hn : n ≤ 300) (hb : ∀ x ∈ ls, x < 18446744073709551616) (hc : Nums64 w0 a ls) (hN : N = (n + 1) * 10)
    (hO : Own w0 w g (List.replicate N 0)) :
    Calls Tryz.prog 99 #[.slice a n c, .slice (some ⟨g, 0, none⟩) N N] w fun e w' => ∃ m, e = .returned (.slice (some ⟨g, 0, none⟩) m N) ∧ m ≤ N ∧ m = (encs 0 ls).length ∧ Own w0 w' g (encs 0 ls ++ List.replicate (N - m) 0) := by
  have HL := Lib.hid hl
  have HB := Lib.hid hb
  have HC := Lib.hid hc
  have HO := Lib.hid hO
  clear hl hb hc hO
  have hNb : N ≤ 3010 := by omega
  have z0 : Go.RowKit.wrap64 0 = 0 := by simp [Go.RowKit.wrap64]
  have HN := Lib.hid hN
  have Z0 := Lib.hid z0
  clear hN z0
  go_enter Tryz.func99, Tryz.ntmps99
  go_wp2_with fail
  go_loopw [5, 6, 13] (fun pv lv iv wr => ∃ k pos : Nat, ∃ q : Int, k ≤ n ∧ iv = .int .i64 k ∧ pv = .int .i64 (pos : Int) ∧ lv = .int .i64 q ∧ q = Go.RowKit.wrap64 ((lastOf 0 (ls.take k) : Nat) : Int) ∧ pos = (encs 0 (ls.take k)).length ∧ Own w0 wr g (encs 0 (ls.take k) ++ List.replicate (N - pos) 0)) (fun _ _ iv _ => n - (intOf iv).toNat)
  case atStart => exact ⟨0, 0, 0, by omega, rfl, rfl, rfl, by rw [List.take_zero]; exact Z0.out.symm, rfl, by simpa [encs] using HO.out⟩
  case round =>
    obtain ⟨k, pos, q, hk, rfl, rfl, rfl, hq, hpos, hown⟩ := hrel
    have hpl : lastOf 0 (ls.take k) < 18446744073709551616 := lastOf_lt _ _ (by omega) (fun x hx => HB.out x (List.mem_of_mem_take hx))
    have hp10 : pos ≤ 10 * k := by
      have h2 := encs_length 0 (ls.take k)
      rw [List.length_take] at h2
      omega
    have HQ := Lib.hid hq
    have HPOS := Lib.hid hpos
    have HOWN := Lib.hid hown
    have hbel := hown.bel
    clear hq hpos hown
    by_cases hlt : k < n
    · obtain ⟨b, o, ea, hb2, hcell⟩ := HC.out (by rw [HL.out]; omega)
      subst ea
      obtain ⟨x, hx⟩ : ∃ x, x = ls.getD k 0 := ⟨_, rfl⟩
      have gx : wr.cell? ⟨b, o + k, none⟩ = some (.int .u64 (x : Int)) := by rw [hx]; exact (hbel.cell (p := ⟨b, o + k, none⟩) hb2).trans (hcell k (by rw [HL.out]; exact hlt))
      have hx64 : x < 18446744073709551616 := by rw [hx]; exact getD_lt HB.out (by rw [HL.out]; exact hlt)
      have HX := Lib.hid hx
      clear hx hcell hbel
      obtain ⟨D, hD⟩ : ∃ D, D = sd x (lastOf 0 (ls.take k)) := ⟨_, rfl⟩
      have hsd : Go.RowKit.wrap64 (Go.RowKit.wrap64 (x : Int) - q) = D := by rw [hD, HQ.out]; exact wrap_sub _ _
      have hNk : pos + 10 ≤ N := by have := HN.out; omega
      have hcut := cutL g N pos (N - pos) (by omega) rfl
      have K76 : Calls Tryz.prog 128 #[.slice (some ⟨g, pos, none⟩) (N - pos) (N - pos), .int .i64 (Go.RowKit.wrap64 (Go.RowKit.wrap64 (x : Int) - q))] wr fun e w' => e = .returned (.int .i64 (((enc D).length : Nat) : Int)) ∧ Own w0 w' g (encs 0 (ls.take k) ++ enc D ++ List.replicate (N - pos - (enc D).length) 0) := by
        rw [hsd]; exact putVarint w0 wr g pos (N - pos) D _ HOWN.out HPOS.out (by omega) (by omega) (by rw [hD]; exact sd_i64 _ _)
      have hE10 : (enc D).length ≤ 10 := uv_le 9 _
      obtain ⟨E, hE⟩ : ∃ E, E = (enc D).length := ⟨_, rfl⟩
      rw [← hE] at K76 hE10
      have K76 := Lib.hid K76
      have HD := Lib.hid hD
      have HE := Lib.hid hE
      clear hD hE hsd
      go_wp2_with (go_at_call 128; (with_reducible refine K76.out.mono ?_); rintro e w1 ⟨rfl, hO1⟩; have O1 := Lib.hid hO1; clear hO1)
      go_roundw
      case rel =>
        refine ⟨k + 1, pos + E, Go.RowKit.wrap64 (x : Int), by omega, by go_num, by go_num, rfl, ?_, ?_, ?_⟩
        · rw [take_more (by rw [HL.out]; exact hlt), lastOf_snoc, ← HX.out]
        · rw [take_more (by rw [HL.out]; exact hlt), encs_snoc, List.length_append, ← HX.out, ← HD.out, ← HE.out, HPOS.out]
        · rw [take_more (by rw [HL.out]; exact hlt), encs_snoc, ← HX.out, ← HD.out, Nat.sub_add_eq]
          exact O1.out
      case measure => simp [intOf]; omega
    · obtain rfl : k = n := by omega
      have hp := HPOS.out
      have hown := HOWN.out
      rw [List.take_of_length_le (by rw [HL.out]; exact Nat.le_refl _)] at hp hown
      have hpN : pos ≤ N := by have := HN.out; omega
      have HP2 := Lib.hid hp
      have HO2 := Lib.hid hown
      clear hp hown
      go_wp2_with fail
      go_ret
      exact ⟨pos, rfl, hpN, HP2.out, HO2.out⟩

theorem encodeVarints (w0 w : World) (g N : Nat) (a : Option Addr) (n c : Nat) (ls : List Nat) (hl : ls.length = n) (hn : n ≤ 300) (hb : ∀ x ∈ ls, x < 18446744073709551616) (hc : Nums64 w0 a ls) (hN : N = (n + 1) * 10)
    (hO : Own w0 w g (List.replicate N 0)) :
    Calls Tryz.prog 73 #[.slice a n c, .slice (some ⟨g, 0, none⟩) N N] w fun e w' => ∃ m, e = .returned (.slice (some ⟨g, 0, none⟩) m N) ∧ m ≤ N ∧ m = (encs 0 ls).length ∧ Own w0 w' g (encs 0 ls ++ List.replicate (N - m) 0) := by
  have K := Lib.hid (encodeDeltas w0 w g N a n c ls hl hn hb hc hN hO)
  clear hl hn hb hc hN hO
  go_enter Tryz.func73, Tryz.ntmps73
  go_wp2_with (go_at_call 99; (with_reducible refine K.out.mono ?_); rintro e w1 ⟨m, rfl, h1, h2, h3⟩; have H2 := Lib.hid h2; have H3 := Lib.hid h3; clear h2 h3)
  go_ret
  exact ⟨m, rfl, h1, H2.out, H3.out⟩

theorem maxSize (w : World) (n N : Nat) (hN : N = (n + 1) * 10) (hn : n ≤ 300) : Calls Tryz.prog 72 #[.int .i64 (n : Int)] w fun e w' => e = .returned (.int .i64 (N : Int)) ∧ w = w' := by
  have hs : ((n : Int) + 1) * 10 = (N : Int) := by omega
  clear hN
  go_enter Tryz.func72, Tryz.ntmps72
  go_wp2
  go_ret
  exact ⟨rfl, rfl⟩

theorem made_bs (n : Nat) : madeCells #[Value.int .u8 0] n = (bs (List.replicate n 0)).toArray := by
  apply Array.toList_inj.1
  rw [toList_madeCells_one]
  simp [bs]

theorem Own.rb {w0 w : World} {g m N r : Nat} {xs : List Nat} (h : Own w0 w g (xs ++ List.replicate r 0)) (hm : m = xs.length) (hN : m ≤ N) (hN2 : N ≤ 1000000) (bx : ∀ x ∈ xs, x < 256) : RB w (some ⟨g, 0, none⟩) m N xs := by
  subst hm
  refine ⟨rfl, hN, by unfold maxLen; omega, bx, fun _ => ⟨g, 0, rfl, fun i hi => ?_⟩⟩
  rw [Nat.zero_add, h.cell (by rw [List.length_append]; omega)]
  simp only [List.getD_eq_getElem?_getD, List.getElem?_append_left hi]

theorem Nums64.below {w w' : World} {a : Option Addr} {cs : List Nat} (h : Nums64 w a cs) (hb : Below w.heap.size w w') : Nums64 w' a cs := fun h0 => by
  obtain ⟨b, o, e, hlt, hc⟩ := h h0
  exact ⟨b, o, e, Nat.lt_of_lt_of_le hlt hb.size, fun i hi => (hb.cell (p := ⟨b, o + i, none⟩) hlt).trans (hc i hi)⟩

end Go.Proofs.YtegohkgmamnkdaaGreat.Cnt
