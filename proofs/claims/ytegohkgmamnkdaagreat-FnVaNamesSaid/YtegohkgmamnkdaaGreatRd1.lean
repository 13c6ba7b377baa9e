/- Numbers read out of bytes, the least first: of 1, 2, 4 and 8 bytes, walked. Condition: bytes enough. -/
import Derived.Test.YtegohkgmamnkdaaGreatTold
import Derived.Laws.BitsLemmas
set_option linter.unusedVariables false
namespace Go.Proofs.YtegohkgmamnkdaaGreat.Msg
open Go.ChangeShapes Go.WideShapes Go.ChangeAt Go.RowKit
open Go.Proofs.YtegohkgmamnkdaaGreat.Dig Go.Proofs.YtegohkgmamnkdaaGreat.Mem Go.Proofs.YtegohkgmamnkdaaGreat.Rb

theorem or_sh (k : IntKind) (j i : Nat) (hj : j ≤ k.bits) (hk : ∀ n : Int, 0 ≤ n → n < 2 ^ j → k.wrap n = n) (a b : Nat) (ha : a < 2 ^ i) (hab : a + b * 2 ^ i < 2 ^ j) : bits .or k (a : Int) ((b : Int) * ((2 ^ i : Nat) : Int)) = ((a + b * 2 ^ i : Nat) : Int) := by
  rw [← Int.natCast_mul, (bits_nat k j hj hk a (b * 2 ^ i) (by omega) (by omega)).2]
  congr 1
  rw [Nat.or_comm, Nat.mul_comm b, ← Nat.two_pow_add_eq_or_of_lt ha]
  omega
theorem wrapU16 (n : Int) (h0 : 0 ≤ n) (h : n < 2 ^ 16) : IntKind.u16.wrap n = n := by rw [IntKind.wrap_u16]; omega
theorem wrapI32 (n : Int) (h0 : 0 ≤ n) (h : n < 2 ^ 31) : IntKind.i32.wrap n = n := by rw [IntKind.wrap_i32]; omega
theorem wrapU64 (n : Int) (h0 : 0 ≤ n) (h : n < 2 ^ 64) : IntKind.u64.wrap n = n := by rw [IntKind.wrap_u64]; omega

set_option maxRecDepth 100000 in
theorem getU8 (w : World) (g o n c : Nat) (xs : List Nat) (h : RB w (some ⟨g, o, none⟩) n c xs) (hn : 1 ≤ n) :
    Calls Tryz.prog 187 #[.slice (some ⟨g, o, none⟩) n c] w fun e w' => e = .returned (.int .u8 ((unle 1 xs : Nat) : Int)) ∧ w = w' := by
  obtain ⟨x0, r, rfl⟩ : ∃ x0 r, xs = x0 :: r := by
    have := h.len
    match xs, this with
    | [], this => simp at this; omega
    | x0 :: r, _ => exact ⟨_, _, rfl⟩
  obtain ⟨b, o', e, hb⟩ := h.at_ (by omega)
  injection e with e
  injection e with e1 e2
  subst e1 e2
  have c0 := hb 0 (by simp)
  have b0 := h.byte x0 (by simp)
  have h0 : 0 < n := by omega
  simp only [List.getD_cons_zero, Nat.add_zero] at c0
  have e : unle 1 (x0 :: r) = x0 := by simp [unle]
  rw [e]
  clear h hb e
  go_enter Tryz.func187, Tryz.ntmps187
  go_wp2
  go_ret
  exact ⟨rfl, rfl⟩

set_option maxRecDepth 100000 in
theorem getU16 (w : World) (g o n c : Nat) (xs : List Nat) (h : RB w (some ⟨g, o, none⟩) n c xs) (hn : 2 ≤ n) :
    Calls Tryz.prog 164 #[.slice (some ⟨g, o, none⟩) n c] w fun e w' => e = .returned (.int .u16 ((unle 2 xs : Nat) : Int)) ∧ w = w' := by
  obtain ⟨x0, x1, r, rfl⟩ : ∃ x0 x1 r, xs = x0 :: x1 :: r := by
    have := h.len
    match xs, this with
    | [], this => simp at this; omega
    | [_], this => simp at this; omega
    | x0 :: x1 :: r, _ => exact ⟨_, _, _, rfl⟩
  obtain ⟨b, o', e, hb⟩ := h.at_ (by omega)
  injection e with e
  injection e with e1 e2
  subst e1 e2
  have c0 := hb 0 (by simp)
  have b0 := h.byte x0 (by simp)
  have h0 : 0 < n := by omega
  have c1 := hb 1 (by simp)
  have b1 := h.byte x1 (by simp)
  have h1 : 1 < n := by omega
  simp only [List.getD_cons_zero, List.getD_cons_succ, Nat.add_zero] at c0 c1
  have e : unle 2 (x0 :: x1 :: r) = (x0 + x1 * 256) := by simp [unle]; omega
  rw [e]
  have E0 : bits .or .u16 0 (x0 : Int) = ((x0 : Nat) : Int) := by have := or_sh .u16 16 0 (by decide) wrapU16 0 x0 (by omega) (by omega); simpa using this
  obtain ⟨s1, hs1⟩ : ∃ s, s = x0 + x1 * 256 := ⟨_, rfl⟩
  have E1 : bits .or .u16 (x0 : Int) ((x1 : Int) * 256) = ((s1 : Nat) : Int) := by rw [hs1]; exact or_sh .u16 16 8 (by decide) wrapU16 x0 x1 (by omega) (by omega)
  have es : (x0 + x1 * 256) = s1 := by omega
  rw [es]
  have W1 : s1 < 65536 := by omega
  clear es hs1
  clear h hb e
  go_enter Tryz.func164, Tryz.ntmps164
  go_wp2
  go_ret
  exact ⟨rfl, rfl⟩

set_option maxRecDepth 100000 in
theorem getI32 (w : World) (g o n c : Nat) (xs : List Nat) (h : RB w (some ⟨g, o, none⟩) n c xs) (hn : 4 ≤ n) (hl : unle 4 xs < 2147483648) :
    Calls Tryz.prog 178 #[.slice (some ⟨g, o, none⟩) n c] w fun e w' => e = .returned (.int .i32 ((unle 4 xs : Nat) : Int)) ∧ w = w' := by
  obtain ⟨x0, x1, x2, x3, r, rfl⟩ : ∃ x0 x1 x2 x3 r, xs = x0 :: x1 :: x2 :: x3 :: r := by
    have := h.len
    match xs, this with
    | [], this => simp at this; omega
    | [_], this => simp at this; omega
    | [_, _], this => simp at this; omega
    | [_, _, _], this => simp at this; omega
    | x0 :: x1 :: x2 :: x3 :: r, _ => exact ⟨_, _, _, _, _, rfl⟩
  obtain ⟨b, o', e, hb⟩ := h.at_ (by omega)
  injection e with e
  injection e with e1 e2
  subst e1 e2
  have c0 := hb 0 (by simp)
  have b0 := h.byte x0 (by simp)
  have h0 : 0 < n := by omega
  have c1 := hb 1 (by simp)
  have b1 := h.byte x1 (by simp)
  have h1 : 1 < n := by omega
  have c2 := hb 2 (by simp)
  have b2 := h.byte x2 (by simp)
  have h2 : 2 < n := by omega
  have c3 := hb 3 (by simp)
  have b3 := h.byte x3 (by simp)
  have h3 : 3 < n := by omega
  simp only [List.getD_cons_zero, List.getD_cons_succ, Nat.add_zero] at c0 c1 c2 c3
  have e : unle 4 (x0 :: x1 :: x2 :: x3 :: r) = (((x0 + x1 * 256) + x2 * 65536) + x3 * 16777216) := by simp [unle]; omega
  rw [e] at hl
  rw [e]
  have E0 : bits .or .i32 0 (x0 : Int) = ((x0 : Nat) : Int) := by have := or_sh .i32 31 0 (by decide) wrapI32 0 x0 (by omega) (by omega); simpa using this
  obtain ⟨s1, hs1⟩ : ∃ s, s = x0 + x1 * 256 := ⟨_, rfl⟩
  have E1 : bits .or .i32 (x0 : Int) ((x1 : Int) * 256) = ((s1 : Nat) : Int) := by rw [hs1]; exact or_sh .i32 31 8 (by decide) wrapI32 x0 x1 (by omega) (by omega)
  obtain ⟨s2, hs2⟩ : ∃ s, s = s1 + x2 * 65536 := ⟨_, rfl⟩
  have E2 : bits .or .i32 (s1 : Int) ((x2 : Int) * 65536) = ((s2 : Nat) : Int) := by rw [hs2]; exact or_sh .i32 31 16 (by decide) wrapI32 s1 x2 (by omega) (by omega)
  obtain ⟨s3, hs3⟩ : ∃ s, s = s2 + x3 * 16777216 := ⟨_, rfl⟩
  have E3 : bits .or .i32 (s2 : Int) ((x3 : Int) * 16777216) = ((s3 : Nat) : Int) := by rw [hs3]; exact or_sh .i32 31 24 (by decide) wrapI32 s2 x3 (by omega) (by omega)
  have w3 : wrap32 ((x3 : Int) * 16777216) = (x3 : Int) * 16777216 := by unfold wrap32; omega
  have es : (((x0 + x1 * 256) + x2 * 65536) + x3 * 16777216) = s3 := by omega
  rw [es]
  have W1 : s1 < 65536 := by omega
  have W2 : s2 < 16777216 := by omega
  have W3 : s3 < 2147483648 := by omega
  clear es hs1 hs2 hs3 hl
  clear h hb e
  go_enter Tryz.func178, Tryz.ntmps178
  go_wp2
  go_ret
  exact ⟨rfl, rfl⟩

set_option maxRecDepth 100000 in
theorem getU64 (w : World) (g o n c : Nat) (xs : List Nat) (h : RB w (some ⟨g, o, none⟩) n c xs) (hn : 8 ≤ n) :
    Calls Tryz.prog 183 #[.slice (some ⟨g, o, none⟩) n c] w fun e w' => e = .returned (.int .u64 ((unle 8 xs : Nat) : Int)) ∧ w = w' := by
  obtain ⟨x0, x1, x2, x3, x4, x5, x6, x7, r, rfl⟩ : ∃ x0 x1 x2 x3 x4 x5 x6 x7 r, xs = x0 :: x1 :: x2 :: x3 :: x4 :: x5 :: x6 :: x7 :: r := by
    have := h.len
    match xs, this with
    | [], this => simp at this; omega
    | [_], this => simp at this; omega
    | [_, _], this => simp at this; omega
    | [_, _, _], this => simp at this; omega
    | [_, _, _, _], this => simp at this; omega
    | [_, _, _, _, _], this => simp at this; omega
    | [_, _, _, _, _, _], this => simp at this; omega
    | [_, _, _, _, _, _, _], this => simp at this; omega
    | x0 :: x1 :: x2 :: x3 :: x4 :: x5 :: x6 :: x7 :: r, _ => exact ⟨_, _, _, _, _, _, _, _, _, rfl⟩
  obtain ⟨b, o', e, hb⟩ := h.at_ (by omega)
  injection e with e
  injection e with e1 e2
  subst e1 e2
  have c0 := hb 0 (by simp)
  have b0 := h.byte x0 (by simp)
  have h0 : 0 < n := by omega
  have c1 := hb 1 (by simp)
  have b1 := h.byte x1 (by simp)
  have h1 : 1 < n := by omega
  have c2 := hb 2 (by simp)
  have b2 := h.byte x2 (by simp)
  have h2 : 2 < n := by omega
  have c3 := hb 3 (by simp)
  have b3 := h.byte x3 (by simp)
  have h3 : 3 < n := by omega
  have c4 := hb 4 (by simp)
  have b4 := h.byte x4 (by simp)
  have h4 : 4 < n := by omega
  have c5 := hb 5 (by simp)
  have b5 := h.byte x5 (by simp)
  have h5 : 5 < n := by omega
  have c6 := hb 6 (by simp)
  have b6 := h.byte x6 (by simp)
  have h6 : 6 < n := by omega
  have c7 := hb 7 (by simp)
  have b7 := h.byte x7 (by simp)
  have h7 : 7 < n := by omega
  simp only [List.getD_cons_zero, List.getD_cons_succ, Nat.add_zero] at c0 c1 c2 c3 c4 c5 c6 c7
  have e : unle 8 (x0 :: x1 :: x2 :: x3 :: x4 :: x5 :: x6 :: x7 :: r) = (((((((x0 + x1 * 256) + x2 * 65536) + x3 * 16777216) + x4 * 4294967296) + x5 * 1099511627776) + x6 * 281474976710656) + x7 * 72057594037927936) := by simp [unle]; omega
  rw [e]
  have E0 : bits .or .u64 0 (x0 : Int) = ((x0 : Nat) : Int) := by have := or_sh .u64 64 0 (by decide) wrapU64 0 x0 (by omega) (by omega); simpa using this
  obtain ⟨s1, hs1⟩ : ∃ s, s = x0 + x1 * 256 := ⟨_, rfl⟩
  have E1 : bits .or .u64 (x0 : Int) ((x1 : Int) * 256) = ((s1 : Nat) : Int) := by rw [hs1]; exact or_sh .u64 64 8 (by decide) wrapU64 x0 x1 (by omega) (by omega)
  obtain ⟨s2, hs2⟩ : ∃ s, s = s1 + x2 * 65536 := ⟨_, rfl⟩
  have E2 : bits .or .u64 (s1 : Int) ((x2 : Int) * 65536) = ((s2 : Nat) : Int) := by rw [hs2]; exact or_sh .u64 64 16 (by decide) wrapU64 s1 x2 (by omega) (by omega)
  obtain ⟨s3, hs3⟩ : ∃ s, s = s2 + x3 * 16777216 := ⟨_, rfl⟩
  have E3 : bits .or .u64 (s2 : Int) ((x3 : Int) * 16777216) = ((s3 : Nat) : Int) := by rw [hs3]; exact or_sh .u64 64 24 (by decide) wrapU64 s2 x3 (by omega) (by omega)
  obtain ⟨s4, hs4⟩ : ∃ s, s = s3 + x4 * 4294967296 := ⟨_, rfl⟩
  have E4 : bits .or .u64 (s3 : Int) ((x4 : Int) * 4294967296) = ((s4 : Nat) : Int) := by rw [hs4]; exact or_sh .u64 64 32 (by decide) wrapU64 s3 x4 (by omega) (by omega)
  obtain ⟨s5, hs5⟩ : ∃ s, s = s4 + x5 * 1099511627776 := ⟨_, rfl⟩
  have E5 : bits .or .u64 (s4 : Int) ((x5 : Int) * 1099511627776) = ((s5 : Nat) : Int) := by rw [hs5]; exact or_sh .u64 64 40 (by decide) wrapU64 s4 x5 (by omega) (by omega)
  obtain ⟨s6, hs6⟩ : ∃ s, s = s5 + x6 * 281474976710656 := ⟨_, rfl⟩
  have E6 : bits .or .u64 (s5 : Int) ((x6 : Int) * 281474976710656) = ((s6 : Nat) : Int) := by rw [hs6]; exact or_sh .u64 64 48 (by decide) wrapU64 s5 x6 (by omega) (by omega)
  obtain ⟨s7, hs7⟩ : ∃ s, s = s6 + x7 * 72057594037927936 := ⟨_, rfl⟩
  have E7 : bits .or .u64 (s6 : Int) ((x7 : Int) * 72057594037927936) = ((s7 : Nat) : Int) := by rw [hs7]; exact or_sh .u64 64 56 (by decide) wrapU64 s6 x7 (by omega) (by omega)
  have es : (((((((x0 + x1 * 256) + x2 * 65536) + x3 * 16777216) + x4 * 4294967296) + x5 * 1099511627776) + x6 * 281474976710656) + x7 * 72057594037927936) = s7 := by omega
  rw [es]
  have W1 : s1 < 65536 := by omega
  have W2 : s2 < 16777216 := by omega
  have W3 : s3 < 4294967296 := by omega
  have W4 : s4 < 1099511627776 := by omega
  have W5 : s5 < 281474976710656 := by omega
  have W6 : s6 < 72057594037927936 := by omega
  have W7 : s7 < 18446744073709551616 := by omega
  clear es hs1 hs2 hs3 hs4 hs5 hs6 hs7
  clear h hb e
  go_enter Tryz.func183, Tryz.ntmps183
  go_wp2
  go_ret
  exact ⟨rfl, rfl⟩
end Go.Proofs.YtegohkgmamnkdaaGreat.Msg
/- A flatbuffer's table: numbers read out of its bytes, walked. Condition: bytes enough. -/
set_option linter.unusedVariables false
namespace Go.Proofs.YtegohkgmamnkdaaGreat.Msg
open Go.ChangeShapes Go.WideShapes Go.ChangeAt Go.RowKit
open Go.Proofs.YtegohkgmamnkdaaGreat.Dig Go.Proofs.YtegohkgmamnkdaaGreat.Mem Go.Proofs.YtegohkgmamnkdaaGreat.Rb

theorem cutLoO {k : IntKind} (g o N C lo : Nat) (h : lo ≤ N) (h2 : N ≤ C) (h3 : lo < C) : ∀ w, (Instr.slice 26 (.slice (some ⟨g, o, none⟩) N C) (some (.int k (lo : Int))) none none).run Tryz.prog w = .ok (.slice (some ⟨g, o + lo, none⟩) (N - lo) (C - lo)) w := fun w => by
  have he : Tryz.prog.underlying 26 = some (.slice (Tryz.prog.elem 26)) := by rw [el26]; exact Tryz.underlying26
  have hs : (sizeOf (Tryz.prog.elem 26)).run Tryz.prog w = .ok 1 w := by rw [el26]; exact u8size w
  rw [run_slice_l w 26 (some ⟨g, o, none⟩) N C he k (lo : Int) (by omega) (by omega), hs]
  simp only [Result.andThen, sliced, Int.toNat_natCast]
  rw [if_neg (by omega)]
  unfold Addr.add
  by_cases h0 : lo = 0
  · subst h0; simp
  · simp [h0]
theorem rb_from {w : World} {g o n c lo : Nat} {xs : List Nat} (h : RB w (some ⟨g, o, none⟩) n c xs) (hl : lo < n) : RB w (some ⟨g, o + lo, none⟩) (n - lo) (c - lo) (xs.drop lo) := by
  have h1 := h.le
  have h2 := h.len
  refine ⟨by rw [List.length_drop]; omega, by omega, by have := h.top; omega, fun x hx => h.byte x (List.mem_of_mem_drop hx), fun hn => ⟨g, o + lo, rfl, fun i hi => ?_⟩⟩
  obtain ⟨b, o', e, hb⟩ := h.at_ (by omega)
  injection e with e
  injection e with e1 e2
  subst e1 e2
  rw [List.length_drop] at hi
  rw [Nat.add_assoc, hb (lo + i) (by omega)]
  simp only [List.getD_eq_getElem?_getD, List.getElem?_drop]

/-- A table over a message, in block t. -/
structure Tbl (w : World) (t g o L cc : Nat) (T : List Nat) : Prop where
  row : ∃ ty, w.heap[t]? = some (.cells #[.slice (some ⟨g, o, none⟩) L cc, .int .u32 ((pos T : Nat) : Int)] ty (0, 0))
  rb : RB w (some ⟨g, o, none⟩) L cc T
  top : L ≤ 100000
  pos4 : pos T + 4 ≤ L
theorem Tbl.below {w w' : World} {t g o L cc : Nat} {T : List Nat} (h : Tbl w t g o L cc T) (hb : Below w.heap.size w w') : Tbl w' t g o L cc T := by
  obtain ⟨⟨ty, h1⟩, h2, h3, h4⟩ := h
  exact ⟨⟨ty, (hb.block t (lt_of_obj h1)).trans h1⟩, h2.below hb (Nat.le_refl _), h3, h4⟩
theorem Tbl.drewN {w : World} {t g o L cc : Nat} {T : List Nat} (h : Tbl w t g o L cc T) (m : Nat) : Tbl (w.drewN m) t g o L cc T := h.below ⟨rfl, rfl, rfl, Nat.le_refl _, fun _ _ => rfl⟩
theorem Tbl.c0 {w : World} {t g o L cc : Nat} {T : List Nat} (h : Tbl w t g o L cc T) : w.cell? ⟨t, 0, none⟩ = some (.slice (some ⟨g, o, none⟩) L cc) := by obtain ⟨ty, h1⟩ := h.row; simp only [World.cell?, h1]; rfl
theorem Tbl.c1 {w : World} {t g o L cc : Nat} {T : List Nat} (h : Tbl w t g o L cc T) : w.cell? ⟨t, 1, none⟩ = some (.int .u32 ((pos T : Nat) : Int)) := by obtain ⟨ty, h1⟩ := h.row; simp only [World.cell?, h1]; rfl
theorem Tbl.len {w : World} {t g o L cc : Nat} {T : List Nat} (h : Tbl w t g o L cc T) : T.length = L := h.rb.len

theorem getUO (w : World) (g o n c : Nat) (xs : List Nat) (h : RB w (some ⟨g, o, none⟩) n c xs) (hn : 4 ≤ n) (hl : unle 4 xs < 2147483648) :
    Calls Tryz.prog 152 #[.slice (some ⟨g, o, none⟩) n c] w fun e w' => e = .returned (.int .u32 ((unle 4 xs : Nat) : Int)) ∧ w = w' := by
  have K := Lib.hid (getI32 w g o n c xs h hn hl)
  obtain ⟨v, hv⟩ : ∃ v, v = unle 4 xs := ⟨_, rfl⟩
  rw [← hv] at K ⊢
  have hb : v < 2147483648 := by rw [hv]; exact hl
  clear h hv hl
  go_enter Tryz.func152, Tryz.ntmps152
  go_wp2_with (go_at_call 178; (with_reducible refine K.out.mono ?_); rintro e w1 ⟨rfl, rfl⟩)
  go_ret
  exact ⟨rfl, rfl⟩

theorem getSO (w : World) (g o n c : Nat) (xs : List Nat) (h : RB w (some ⟨g, o, none⟩) n c xs) (hn : 4 ≤ n) (hl : unle 4 xs < 2147483648) :
    Calls Tryz.prog 186 #[.slice (some ⟨g, o, none⟩) n c] w fun e w' => e = .returned (.int .i32 ((unle 4 xs : Nat) : Int)) ∧ w = w' := by
  have K := Lib.hid (getI32 w g o n c xs h hn hl)
  obtain ⟨v, hv⟩ : ∃ v, v = unle 4 xs := ⟨_, rfl⟩
  rw [← hv] at K ⊢
  have hb : v < 2147483648 := by rw [hv]; exact hl
  clear h hv hl
  go_enter Tryz.func186, Tryz.ntmps186
  go_wp2_with (go_at_call 178; (with_reducible refine K.out.mono ?_); rintro e w1 ⟨rfl, rfl⟩)
  go_ret
  exact ⟨rfl, rfl⟩

theorem getVO (w : World) (g o n c : Nat) (xs : List Nat) (h : RB w (some ⟨g, o, none⟩) n c xs) (hn : 2 ≤ n) :
    Calls Tryz.prog 132 #[.slice (some ⟨g, o, none⟩) n c] w fun e w' => e = .returned (.int .u16 ((unle 2 xs : Nat) : Int)) ∧ w = w' := by
  have K := Lib.hid (getU16 w g o n c xs h hn)
  obtain ⟨v, hv⟩ : ∃ v, v = unle 2 xs := ⟨_, rfl⟩
  rw [← hv] at K ⊢
  skip
  clear h hv
  go_enter Tryz.func132, Tryz.ntmps132
  go_wp2_with (go_at_call 164; (with_reducible refine K.out.mono ?_); rintro e w1 ⟨rfl, rfl⟩)
  go_ret
  exact ⟨rfl, rfl⟩

theorem getBy (w : World) (g o n c : Nat) (xs : List Nat) (h : RB w (some ⟨g, o, none⟩) n c xs) (hn : 1 ≤ n) :
    Calls Tryz.prog 182 #[.slice (some ⟨g, o, none⟩) n c] w fun e w' => e = .returned (.int .u8 ((unle 1 xs : Nat) : Int)) ∧ w = w' := by
  have K := Lib.hid (getU8 w g o n c xs h hn)
  obtain ⟨v, hv⟩ : ∃ v, v = unle 1 xs := ⟨_, rfl⟩
  rw [← hv] at K ⊢
  skip
  clear h hv
  go_enter Tryz.func182, Tryz.ntmps182
  go_wp2_with (go_at_call 187; (with_reducible refine K.out.mono ?_); rintro e w1 ⟨rfl, rfl⟩)
  go_ret
  exact ⟨rfl, rfl⟩

theorem tSO {w : World} {t g o L cc : Nat} {T : List Nat} (h : Tbl w t g o L cc T) (off : Nat) (ho : off + 4 ≤ L) (hl : unle 4 (T.drop off) < 2147483648) :
    Calls Tryz.prog 179 #[.pointer (some ⟨t, 0, none⟩), .int .u32 (off : Int)] w fun e w' => e = .returned (.int .i32 ((unle 4 (T.drop off) : Nat) : Int)) ∧ w = w' := by
  have K := Lib.hid (getSO w g (o + off) (L - off) (cc - off) (T.drop off) (rb_from h.rb (by omega)) (by omega) hl)
  have c0 := h.c0
  have h1 := h.rb.le
  have h2 := h.rb.top
  have C1 := cutLoO (k := .u32) g o L cc off (by omega) h1 (by omega)
  clear h hl
  go_enter Tryz.func179, Tryz.ntmps179
  go_wp2_with (go_at_call 186; (with_reducible refine K.out.mono ?_); rintro e w1 ⟨rfl, rfl⟩)
  go_ret
  exact ⟨rfl, rfl⟩

theorem tVO {w : World} {t g o L cc : Nat} {T : List Nat} (h : Tbl w t g o L cc T) (off : Nat) (ho : off + 2 ≤ L) :
    Calls Tryz.prog 180 #[.pointer (some ⟨t, 0, none⟩), .int .u32 (off : Int)] w fun e w' => e = .returned (.int .u16 ((unle 2 (T.drop off) : Nat) : Int)) ∧ w = w' := by
  have K := Lib.hid (getVO w g (o + off) (L - off) (cc - off) (T.drop off) (rb_from h.rb (by omega)) (by omega))
  have c0 := h.c0
  have h1 := h.rb.le
  have h2 := h.rb.top
  have C1 := cutLoO (k := .u32) g o L cc off (by omega) h1 (by omega)
  clear h
  go_enter Tryz.func180, Tryz.ntmps180
  go_wp2_with (go_at_call 132; (with_reducible refine K.out.mono ?_); rintro e w1 ⟨rfl, rfl⟩)
  go_ret
  exact ⟨rfl, rfl⟩

theorem tB {w : World} {t g o L cc : Nat} {T : List Nat} (h : Tbl w t g o L cc T) (off : Nat) (ho : off + 1 ≤ L) :
    Calls Tryz.prog 172 #[.pointer (some ⟨t, 0, none⟩), .int .u32 (off : Int)] w fun e w' => e = .returned (.int .u8 ((unle 1 (T.drop off) : Nat) : Int)) ∧ w = w' := by
  have K := Lib.hid (getBy w g (o + off) (L - off) (cc - off) (T.drop off) (rb_from h.rb (by omega)) (by omega))
  have c0 := h.c0
  have h1 := h.rb.le
  have h2 := h.rb.top
  have C1 := cutLoO (k := .u32) g o L cc off (by omega) h1 (by omega)
  clear h
  go_enter Tryz.func172, Tryz.ntmps172
  go_wp2_with (go_at_call 182; (with_reducible refine K.out.mono ?_); rintro e w1 ⟨rfl, rfl⟩)
  go_ret
  exact ⟨rfl, rfl⟩

theorem tU64 {w : World} {t g o L cc : Nat} {T : List Nat} (h : Tbl w t g o L cc T) (off : Nat) (ho : off + 8 ≤ L) :
    Calls Tryz.prog 173 #[.pointer (some ⟨t, 0, none⟩), .int .u32 (off : Int)] w fun e w' => e = .returned (.int .u64 ((unle 8 (T.drop off) : Nat) : Int)) ∧ w = w' := by
  have K := Lib.hid (getU64 w g (o + off) (L - off) (cc - off) (T.drop off) (rb_from h.rb (by omega)) (by omega))
  have c0 := h.c0
  have h1 := h.rb.le
  have h2 := h.rb.top
  have C1 := cutLoO (k := .u32) g o L cc off (by omega) h1 (by omega)
  clear h
  go_enter Tryz.func173, Tryz.ntmps173
  go_wp2_with (go_at_call 183; (with_reducible refine K.out.mono ?_); rintro e w1 ⟨rfl, rfl⟩)
  go_ret
  exact ⟨rfl, rfl⟩
end Go.Proofs.YtegohkgmamnkdaaGreat.Msg
/- A flatbuffer's table: where a field lies, its vector's length and bytes, walked. Condition: the bytes are a message. -/
set_option linter.unusedVariables false
namespace Go.Proofs.YtegohkgmamnkdaaGreat.Msg
open Go.ChangeShapes Go.WideShapes Go.ChangeAt Go.RowKit
open Go.Proofs.YtegohkgmamnkdaaGreat.Dig Go.Proofs.YtegohkgmamnkdaaGreat.Mem Go.Proofs.YtegohkgmamnkdaaGreat.Rb

/-- The bytes have a table of at most twenty fields. -/
structure Msgy (T : List Nat) (n : Nat) : Prop where
  vt : vtp T + (2 * n + 4) = pos T
  vsz : unle 2 (T.drop (vtp T)) = (n + 2) * 2
  so : unle 4 (T.drop (pos T)) = 2 * n + 4
  pos4 : pos T + 4 ≤ T.length
  n20 : n ≤ 20
theorem Mg.msgy {T fid vs xs : List Nat} {n : Nat} (h : Mg T fid vs xs n) (hn : n ≤ 20) : Msgy T n := ⟨h.vt, h.vsz, h.so, h.pos4, hn⟩

set_option maxRecDepth 100000 in
theorem tOff {w : World} {t g o L cc n : Nat} {T : List Nat} (h : Tbl w t g o L cc T) (M : Msgy T n) (i : Nat) (X : Int) (hX : X = ((4 + 2 * i : Nat) : Int)) :
    Calls Tryz.prog 154 #[.pointer (some ⟨t, 0, none⟩), .int .u16 X] w fun e w' => e = .returned (.int .u16 ((fld T i : Nat) : Int)) ∧ ∃ m, w' = w.drewN m := by
  have hl := h.len
  have ht := h.top
  have m1 := M.vt
  have m2 := M.vsz
  have m3 := M.so
  have m4 := M.pos4
  have m5 := M.n20
  have c0 : ∀ m, (w.drewN m).cell? ⟨t, 0, none⟩ = some (.slice (some ⟨g, o, none⟩) L cc) := fun m => (h.drewN m).c0
  have c1 : ∀ m, (w.drewN m).cell? ⟨t, 1, none⟩ = some (.int .u32 ((pos T : Nat) : Int)) := fun m => (h.drewN m).c1
  have KS := Lib.hid fun m => tSO (h.drewN m) (pos T) (by omega) (by omega)
  have KV := Lib.hid fun m => tVO (h.drewN m) (vtp T) (by omega)
  have KW := Lib.hid fun m (hi : i < n) => tVO (h.drewN m) (vtp T + (4 + 2 * i)) (by omega)
  have hf : fld T i = if 4 + 2 * i < (n + 2) * 2 then unle 2 (T.drop (vtp T + (4 + 2 * i))) else 0 := by unfold fld; rw [m2]
  rw [m3] at KS
  rw [m2] at KV
  obtain ⟨R, hR⟩ : ∃ R, R = unle 2 (T.drop (vtp T + (4 + 2 * i))) := ⟨_, rfl⟩
  rw [← hR] at KW hf
  obtain ⟨P, hP⟩ : ∃ P, P = pos T := ⟨_, rfl⟩
  obtain ⟨V, hV⟩ : ∃ V, V = vtp T := ⟨_, rfl⟩
  obtain ⟨D, hD⟩ : ∃ D, D = 2 * n + 4 := ⟨_, rfl⟩
  obtain ⟨S, hS⟩ : ∃ S, S = (n + 2) * 2 := ⟨_, rfl⟩
  obtain ⟨x, hx⟩ : ∃ x, x = 4 + 2 * i := ⟨_, rfl⟩
  obtain ⟨F, hF⟩ : ∃ F, F = fld T i := ⟨_, rfl⟩
  obtain ⟨VX, hVX⟩ : ∃ VX, VX = V + x := ⟨_, rfl⟩
  rw [← hP] at c1 KS m1 m4
  rw [← hV] at KV KW m1
  rw [← hD] at KS
  rw [← hS] at KV hf
  rw [← hx] at KW hf hX
  rw [← hVX] at KW
  rw [← hF] at hf ⊢
  have e1 : (P : Int) - (D : Int) = (V : Int) := by omega
  have bP : P ≤ 100000 := by omega
  have bV : V ≤ 100000 := by omega
  have bx : x ≤ 65535 ∨ ¬ i < n := by omega
  subst hX
  have KS' := Lib.hid fun m => quiet_left (KS.out m)
  clear KS h M m2 m3 hP hV hR hF
  by_cases hi : i < n
  · rw [if_pos (by omega)] at hf
    have q : (x : Int) < (S : Int) := by omega
    have e2 : (V : Int) + (x : Int) = (VX : Int) := by omega
    have bVX : VX ≤ 100000 := by omega
    have bx' : x ≤ 65535 := by omega
    have KW' := Lib.hid fun m => KW.out m hi
    rw [← hf] at KW'
    clear hf hVX hx hS hD m1 m4 m5 bx
    go_enter Tryz.func154, Tryz.ntmps154
    go_wp2_with fail
    refine region_quiet_tail 13 (C := fun w' => ∃ m, w' = w.drewN m) (by kernel_rfl) (by kernel_rfl) ⟨1, rfl⟩ ?_
    simp only [List.take_succ_cons, List.take_zero, List.drop_succ_cons, List.drop_zero]
    iterate 13 go_big_quiet_step ((go_at_call 179; exact KS'.out _))
    refine wpQuiet_nil ?_
    rintro _ ⟨m, rfl⟩
    go_wp2_with (first
      | (go_at_call 180; (with_reducible refine (KV.out m).mono ?_); rintro e w1 ⟨rfl, rfl⟩)
      | (go_at_call 180; (with_reducible refine (KW'.out m).mono ?_); rintro e w1 ⟨rfl, rfl⟩))
    go_ret
    exact ⟨rfl, m, rfl⟩
  · rw [if_neg (by omega)] at hf
    have q : ¬ (x : Int) < (S : Int) := by omega
    subst hf
    clear hVX hx hS hD m1 m4 m5 bx
    go_enter Tryz.func154, Tryz.ntmps154
    go_wp2_with fail
    refine region_quiet_tail 13 (C := fun w' => ∃ m, w' = w.drewN m) (by kernel_rfl) (by kernel_rfl) ⟨1, rfl⟩ ?_
    simp only [List.take_succ_cons, List.take_zero, List.drop_succ_cons, List.drop_zero]
    iterate 13 go_big_quiet_step ((go_at_call 179; exact KS'.out _))
    refine wpQuiet_nil ?_
    rintro _ ⟨m, rfl⟩
    go_wp2_with (go_at_call 180; (with_reducible refine (KV.out m).mono ?_); rintro e w1 ⟨rfl, rfl⟩)
    go_ret
    exact ⟨rfl, m, rfl⟩
end Go.Proofs.YtegohkgmamnkdaaGreat.Msg
/- A flatbuffer's table: a vector's length, place and bytes, walked. Condition: the bytes are a message. -/
set_option linter.unusedVariables false
namespace Go.Proofs.YtegohkgmamnkdaaGreat.Msg
open Go.ChangeShapes Go.WideShapes Go.ChangeAt Go.RowKit
open Go.Proofs.YtegohkgmamnkdaaGreat.Dig Go.Proofs.YtegohkgmamnkdaaGreat.Mem Go.Proofs.YtegohkgmamnkdaaGreat.Rb

set_option maxRecDepth 100000 in
theorem tVL {w : World} {t g o L cc i c : Nat} {T ys : List Nat} (h : Tbl w t g o L cc T) (V : Vec T i c ys) (hc : c ≤ 100000) (hD0 : unle 4 (T.drop (fld T i + pos T)) ≤ 100000) :
    Calls Tryz.prog 156 #[.pointer (some ⟨t, 0, none⟩), .int .u32 ((fld T i : Nat) : Int)] w fun e w' => e = .returned (.int .i64 (c : Int)) ∧ w = w' := by
  have hl := h.len
  have ht := h.top
  have hcc := h.rb.le
  have hct := h.rb.top
  unfold maxLen at hct
  have v1 := V.fit
  have v2 := V.at_
  have v3 := V.len
  have c0 := h.c0
  have c1 := h.c1
  obtain ⟨A, hA⟩ : ∃ A, A = fld T i + pos T := ⟨_, rfl⟩
  obtain ⟨D, hD⟩ : ∃ D, D = unle 4 (T.drop A) := ⟨_, rfl⟩
  have hi : ind T i = A + D := by unfold ind; rw [← hA, hD]
  obtain ⟨I, hI⟩ : ∃ I, I = ind T i := ⟨_, rfl⟩
  have hv : c = unle 4 (T.drop I) := by rw [hI, ← v3]; rfl
  rw [← hI] at hi v1
  rw [← hA] at v2
  have K1 := Lib.hid (getUO w g (o + A) (L - A) (cc - A) (T.drop A) (rb_from h.rb (by omega)) (by omega) (by omega))
  have K2 := Lib.hid (getUO w g (o + I) (L - I) (cc - I) (T.drop I) (rb_from h.rb (by omega)) (by omega) (by omega))
  rw [← hD] at K1
  rw [← hv] at K2
  have C1 := cutLoO (k := .u32) g o L cc A (by omega) hcc (by omega)
  have C2 := cutLoO (k := .u32) g o L cc I (by omega) hcc (by omega)
  obtain ⟨F, hF⟩ : ∃ F, F = fld T i := ⟨_, rfl⟩
  obtain ⟨P, hP⟩ : ∃ P, P = pos T := ⟨_, rfl⟩
  have e2 : (A : Int) + (D : Int) = (I : Int) := by omega
  have bA : A ≤ 100000 := by omega
  have bI : I ≤ 100000 := by omega
  have e1 : (F : Int) + (P : Int) = (A : Int) := by omega
  rw [← hP] at c1
  rw [← hF]
  clear h V hv hD hA hi hF hP hI v1 v2 v3
  go_enter Tryz.func156, Tryz.ntmps156
  go_wp2_with (first
    | (go_at_call 152; (with_reducible refine K1.out.mono ?_); rintro e w1 ⟨rfl, rfl⟩)
    | (go_at_call 152; (with_reducible refine K2.out.mono ?_); rintro e w1 ⟨rfl, rfl⟩))
  go_ret
  exact ⟨rfl, rfl⟩

set_option maxRecDepth 100000 in
theorem tVe {w : World} {t g o L cc i c : Nat} {T ys : List Nat} (h : Tbl w t g o L cc T) (V : Vec T i c ys) (hc : c ≤ 100000) (hD0 : unle 4 (T.drop (fld T i + pos T)) ≤ 100000) :
    Calls Tryz.prog 157 #[.pointer (some ⟨t, 0, none⟩), .int .u32 ((fld T i : Nat) : Int)] w fun e w' => e = .returned (.int .u32 ((ind T i + 4 : Nat) : Int)) ∧ w = w' := by
  have hl := h.len
  have ht := h.top
  have hcc := h.rb.le
  have hct := h.rb.top
  unfold maxLen at hct
  have v1 := V.fit
  have v2 := V.at_
  have v3 := V.len
  have c0 := h.c0
  have c1 := h.c1
  obtain ⟨A, hA⟩ : ∃ A, A = fld T i + pos T := ⟨_, rfl⟩
  obtain ⟨D, hD⟩ : ∃ D, D = unle 4 (T.drop A) := ⟨_, rfl⟩
  have hi : ind T i = A + D := by unfold ind; rw [← hA, hD]
  obtain ⟨I, hI⟩ : ∃ I, I = ind T i := ⟨_, rfl⟩
  have hv : c = unle 4 (T.drop I) := by rw [hI, ← v3]; rfl
  rw [← hI] at hi v1
  rw [← hA] at v2
  have K1 := Lib.hid (getUO w g (o + A) (L - A) (cc - A) (T.drop A) (rb_from h.rb (by omega)) (by omega) (by omega))
  have K2 := Lib.hid (getUO w g (o + I) (L - I) (cc - I) (T.drop I) (rb_from h.rb (by omega)) (by omega) (by omega))
  rw [← hD] at K1
  rw [← hv] at K2
  have C1 := cutLoO (k := .u32) g o L cc A (by omega) hcc (by omega)
  have C2 := cutLoO (k := .u32) g o L cc I (by omega) hcc (by omega)
  obtain ⟨F, hF⟩ : ∃ F, F = fld T i := ⟨_, rfl⟩
  obtain ⟨P, hP⟩ : ∃ P, P = pos T := ⟨_, rfl⟩
  have e2 : (A : Int) + (D : Int) = (I : Int) := by omega
  have bA : A ≤ 100000 := by omega
  have bI : I ≤ 100000 := by omega
  have e1 : (F : Int) + (P : Int) = (A : Int) := by omega
  rw [← hP] at c1
  rw [← hF, ← hI]
  obtain ⟨J, hJ⟩ : ∃ J, J = I + 4 := ⟨_, rfl⟩
  have e3 : (I : Int) + 4 = (J : Int) := by omega
  have bJ : J ≤ 100004 := by omega
  rw [← hJ]
  clear h V hv hD hA hi hF hP hI v1 v2 v3 hJ
  go_enter Tryz.func157, Tryz.ntmps157
  go_wp2_with (first
    | (go_at_call 152; (with_reducible refine K1.out.mono ?_); rintro e w1 ⟨rfl, rfl⟩)
    | (go_at_call 152; (with_reducible refine K2.out.mono ?_); rintro e w1 ⟨rfl, rfl⟩))
  go_ret
  exact ⟨rfl, rfl⟩

set_option maxRecDepth 100000 in
theorem tBV {w : World} {t g o L cc i c : Nat} {T ys : List Nat} (h : Tbl w t g o L cc T) (V : Vec T i c ys) (hy : ys.length = c) (hc : c ≤ 100000) (hD0 : unle 4 (T.drop (fld T i + pos T)) ≤ 100000) (A0 : Nat) (hA0 : A0 = fld T i + pos T) :
    Calls Tryz.prog 155 #[.pointer (some ⟨t, 0, none⟩), .int .u32 (A0 : Int)] w fun e w' => e = .returned (.slice (cutA (some ⟨g, o, none⟩) cc (ind T i + 4)) c (cc - (ind T i + 4))) ∧ w = w' := by
  have hl := h.len
  have ht := h.top
  have hcc := h.rb.le
  have hct := h.rb.top
  unfold maxLen at hct
  have v1 := V.fit
  have v2 := V.at_
  have v3 := V.len
  have c0 := h.c0
  have c1 := h.c1
  obtain ⟨A, hA⟩ : ∃ A, A = fld T i + pos T := ⟨_, rfl⟩
  obtain ⟨D, hD⟩ : ∃ D, D = unle 4 (T.drop A) := ⟨_, rfl⟩
  have hi : ind T i = A + D := by unfold ind; rw [← hA, hD]
  obtain ⟨I, hI⟩ : ∃ I, I = ind T i := ⟨_, rfl⟩
  have hv : c = unle 4 (T.drop I) := by rw [hI, ← v3]; rfl
  rw [← hI] at hi v1
  rw [← hA] at v2
  have K1 := Lib.hid (getUO w g (o + A) (L - A) (cc - A) (T.drop A) (rb_from h.rb (by omega)) (by omega) (by omega))
  have K2 := Lib.hid (getUO w g (o + I) (L - I) (cc - I) (T.drop I) (rb_from h.rb (by omega)) (by omega) (by omega))
  rw [← hD] at K1
  rw [← hv] at K2
  have C1 := cutLoO (k := .u32) g o L cc A (by omega) hcc (by omega)
  have C2 := cutLoO (k := .u32) g o L cc I (by omega) hcc (by omega)
  obtain ⟨F, hF⟩ : ∃ F, F = fld T i := ⟨_, rfl⟩
  obtain ⟨P, hP⟩ : ∃ P, P = pos T := ⟨_, rfl⟩
  have e2 : (A : Int) + (D : Int) = (I : Int) := by omega
  have bA : A ≤ 100000 := by omega
  have bI : I ≤ 100000 := by omega
  subst hA0
  rw [← hA, ← hI]
  obtain ⟨J, hJ⟩ : ∃ J, J = I + 4 := ⟨_, rfl⟩
  obtain ⟨E, hE⟩ : ∃ E, E = J + c := ⟨_, rfl⟩
  have e3 : (I : Int) + 4 = (J : Int) := by omega
  have e4 : (J : Int) + (c : Int) = (E : Int) := by omega
  have bJ : J ≤ 100004 := by omega
  have C3 := cutLH (k := .u32) (k' := .u32) (some ⟨g, o, none⟩) L cc J E c (by omega) (by omega) (by omega)
  rw [← hJ]
  clear h V hv hD hA hi hF hP hI v1 v2 v3 hJ hE
  go_enter Tryz.func155, Tryz.ntmps155
  go_wp2_with (first
    | (go_at_call 152; (with_reducible refine K1.out.mono ?_); rintro e w1 ⟨rfl, rfl⟩)
    | (go_at_call 152; (with_reducible refine K2.out.mono ?_); rintro e w1 ⟨rfl, rfl⟩))
  go_ret
  exact ⟨rfl, rfl⟩
theorem vec_rb {w : World} {t g o L cc i c : Nat} {T ys : List Nat} (h : Tbl w t g o L cc T) (V : Vec T i c ys) (hy : ys.length = c) : RB w (cutA (some ⟨g, o, none⟩) cc (ind T i + 4)) c (cc - (ind T i + 4)) ys := by
  have v1 := V.fit
  have hl := h.len
  have := h.rb.cut (lo := ind T i + 4) (hi := ind T i + 4 + c) (by omega) (by omega)
  rw [Nat.add_sub_cancel_left] at this
  rw [← hy] at this ⊢
  rw [V.ys] at this
  exact this
end Go.Proofs.YtegohkgmamnkdaaGreat.Msg
