/- A builder of messages: fields of an object, a vector's start and end, walked. Condition: it grows once at most. -/
import Derived.Test.YtegohkgmamnkdaaBld8
set_option linter.unusedVariables false
namespace Go.Proofs.Ytegohkgmamnkdaa.Msg
open Go.ChangeShapes Go.WideShapes Go.ChangeAt Go.RowKit
open Go.Proofs.Ytegohkgmamnkdaa.Dig Go.Proofs.Ytegohkgmamnkdaa.Mem Go.Proofs.Ytegohkgmamnkdaa.Rb

set_option maxRecDepth 100000 in
theorem uoSlot (w0 w : World) (B N0 r V n o P off D : Nat) (K : List (Nat × Obj)) (vs xs ys : List Nat) (s : St) (h : Bx w0 w B N0 r ((V, UO vs) :: K) xs s) (hf : Fine N0 s) (hV : ∀ p ∈ K, p.1 ≠ V) (hvt : s.vt = .slice (some ⟨V, 0, none⟩) n n) (hn : vs.length = n) (ho : o < n)
    (hP : P = padOf 4 xs.length) (hfit : xs.length + P + 4 < N0 * 2) (hoff : off ≤ xs.length) (h0 : 0 < off) (hD : D = xs.length + P - off + 4) (hys : ys = le 4 D ++ (List.replicate P 0 ++ xs)) (O : Int) (hO : O = (o : Int)) :
    Calls Try.prog 45 #[.pointer (some ⟨B, 0, none⟩), .int .i64 O, .int .u32 (off : Int), .int .u32 0] w fun e w' => e = .returned (.tuple #[]) ∧ Bx w0 w' B N0 0 ((V, UO (vs.set o ys.length)) :: K) ys { s with ma := mx s.ma 4 } := by
  subst hO
  have K1 := Lib.hid (prependUO w0 w B N0 r P off D _ xs s h hf hP hfit hoff hD)
  rw [← hys] at K1
  have hx : ((off : Int) == 0) = false := by simp; omega
  have HV := Lib.hid hV
  have HT := Lib.hid hvt
  have HN := Lib.hid hn
  clear h hf hP hfit hys hV hvt hn
  go_enter Try.func45, Try.ntmps45
  go_wp2_with (first
    | (go_at_call 60; (with_reducible refine K1.out.mono ?_); rintro e w1 ⟨rfl, h1⟩; have H1 := Lib.hid h1; clear h1)
    | (go_at_call 61; (with_reducible refine (slot w0 w1 B N0 0 V n o ys.length K vs ys _ H1.out HV.out HT.out HN.out ho rfl).mono ?_); rintro e w2 ⟨rfl, h2⟩; have H2 := Lib.hid h2; clear h2))
  go_end0
  exact ⟨rfl, H2.out⟩

set_option maxRecDepth 100000 in
theorem u64Slot (w0 w : World) (B N0 r V n o P v : Nat) (K : List (Nat × Obj)) (vs xs ys : List Nat) (s : St) (h : Bx w0 w B N0 r ((V, UO vs) :: K) xs s) (hf : Fine N0 s) (hV : ∀ p ∈ K, p.1 ≠ V) (hvt : s.vt = .slice (some ⟨V, 0, none⟩) n n) (hn : vs.length = n) (ho : o < n)
    (hP : P = padOf 8 xs.length) (hfit : xs.length + P + 8 < N0 * 2) (hv : v < 18446744073709551616) (h0 : 0 < v) (hys : ys = le 8 v ++ (List.replicate P 0 ++ xs)) (O : Int) (hO : O = (o : Int)) :
    Calls Try.prog 46 #[.pointer (some ⟨B, 0, none⟩), .int .i64 O, .int .u64 (v : Int), .int .u64 0] w fun e w' => e = .returned (.tuple #[]) ∧ Bx w0 w' B N0 0 ((V, UO (vs.set o ys.length)) :: K) ys { s with ma := mx s.ma 8 } := by
  subst hO
  have K1 := Lib.hid (prependU64 w0 w B N0 r 0 P v _ xs s h hf hP hfit hv (Or.inl rfl))
  rw [← hys] at K1
  have hx : ((v : Int) == 0) = false := by simp; omega
  have HV := Lib.hid hV
  have HT := Lib.hid hvt
  have HN := Lib.hid hn
  clear h hf hP hfit hys hV hvt hn
  go_enter Try.func46, Try.ntmps46
  go_wp2_with (first
    | (go_at_call 62; (with_reducible refine K1.out.mono ?_); rintro e w1 ⟨rfl, h1⟩; have H1 := Lib.hid h1; clear h1)
    | (go_at_call 61; (with_reducible refine (slot w0 w1 B N0 0 V n o ys.length K vs ys _ H1.out HV.out HT.out HN.out ho rfl).mono ?_); rintro e w2 ⟨rfl, h2⟩; have H2 := Lib.hid h2; clear h2))
  go_end0
  exact ⟨rfl, H2.out⟩

set_option maxRecDepth 100000 in
theorem byteSlot (w0 w : World) (B N0 r V n o P v : Nat) (K : List (Nat × Obj)) (vs xs ys : List Nat) (s : St) (h : Bx w0 w B N0 r ((V, UO vs) :: K) xs s) (hf : Fine N0 s) (hV : ∀ p ∈ K, p.1 ≠ V) (hvt : s.vt = .slice (some ⟨V, 0, none⟩) n n) (hn : vs.length = n) (ho : o < n)
    (hP : P = padOf 1 xs.length) (hfit : xs.length + P + 1 < N0 * 2) (hv : v < 256) (h0 : 0 < v) (hys : ys = le 1 v ++ (List.replicate P 0 ++ xs)) (O : Int) (hO : O = (o : Int)) :
    Calls Try.prog 47 #[.pointer (some ⟨B, 0, none⟩), .int .i64 O, .int .u8 (v : Int), .int .u8 0] w fun e w' => e = .returned (.tuple #[]) ∧ Bx w0 w' B N0 0 ((V, UO (vs.set o ys.length)) :: K) ys { s with ma := mx s.ma 1 } := by
  subst hO
  have K1 := Lib.hid (prependByte w0 w B N0 r 0 P v _ xs s h hf hP hfit hv (Or.inl rfl))
  rw [← hys] at K1
  have hx : ((v : Int) == 0) = false := by simp; omega
  have HV := Lib.hid hV
  have HT := Lib.hid hvt
  have HN := Lib.hid hn
  clear h hf hP hfit hys hV hvt hn
  go_enter Try.func47, Try.ntmps47
  go_wp2_with (first
    | (go_at_call 63; (with_reducible refine K1.out.mono ?_); rintro e w1 ⟨rfl, h1⟩; have H1 := Lib.hid h1; clear h1)
    | (go_at_call 61; (with_reducible refine (slot w0 w1 B N0 0 V n o ys.length K vs ys _ H1.out HV.out HT.out HN.out ho rfl).mono ?_); rintro e w2 ⟨rfl, h2⟩; have H2 := Lib.hid h2; clear h2))
  go_end0
  exact ⟨rfl, H2.out⟩

theorem u64Slot0 (w : World) (B : Nat) (O : Int) :
    Calls Try.prog 46 #[.pointer (some ⟨B, 0, none⟩), .int .i64 O, .int .u64 0, .int .u64 0] w fun e w' => e = .returned (.tuple #[]) ∧ w = w' := by
  go_enter Try.func46, Try.ntmps46
  go_wp2
  go_end0
  exact ⟨rfl, rfl⟩

theorem byteSlot0 (w : World) (B : Nat) (O : Int) :
    Calls Try.prog 47 #[.pointer (some ⟨B, 0, none⟩), .int .i64 O, .int .u8 0, .int .u8 0] w fun e w' => e = .returned (.tuple #[]) ∧ w = w' := by
  go_enter Try.func47, Try.ntmps47
  go_wp2
  go_end0
  exact ⟨rfl, rfl⟩

section
variable {w0 w : World} {B N0 r : Nat} {K : List (Nat × Obj)} {xs : List Nat} {s : St}
theorem bx_st {s' : St} (h : Bx w0 w B N0 r K xs s) (e : s = s') : Bx w0 w B N0 r K xs s' := e ▸ h

set_option maxRecDepth 100000 in
theorem endVector (w0 w : World) (B N0 r n L : Nat) (K : List (Nat × Obj)) (xs : List Nat) (s : St) (h : Bx w0 w B N0 (r + 4) K xs s) (hs : s.ne = true) (hn : n ≤ 1000000) (hL : L = xs.length + 4) (hN : N0 ≤ 100000) :
    Calls Try.prog 41 #[.pointer (some ⟨B, 0, none⟩), .int .i64 (n : Int)] w fun e w' => e = .returned (.int .u32 (L : Int)) ∧ Bx w0 w' B N0 r K (le 4 n ++ xs) { s with ne := false } := by
  have K1 := Lib.hid (h.nested hs)
  have K2 := Lib.hid (h.placeUO n (by omega))
  have HL := Lib.hid (show L = (le 4 n ++ xs).length by rw [List.length_append, le_length, hL]; omega)
  have bL : L ≤ 200000 := by have := h.top; omega
  clear h hs hL
  go_enter Try.func41, Try.ntmps41
  go_wp2_with (first
    | (go_at_call 57; (with_reducible refine K1.out.mono ?_); rintro e w1 ⟨rfl, rfl⟩)
    | (go_at_call 58; (with_reducible refine K2.out.mono ?_); rintro e w1 ⟨rfl, h1⟩; have H1 := Lib.hid h1; have c6 := h1.cell.2.2.2.2.1; have f6 := h1.cell.2.2.2.2.2.2 6; clear h1)
    | (go_at_call 55; (with_reducible refine ((Bx.set H1.out 6 (.bool false) { s with ne := false } (fun _ _ _ _ => rfl)).offset L HL.out).mono ?_); rintro e w2 ⟨rfl, m1, rfl⟩))
  go_ret
  exact ⟨rfl, (Bx.set H1.out 6 (.bool false) { s with ne := false } (fun _ _ _ _ => rfl)).drewN m1⟩

set_option maxRecDepth 100000 in
/-- A vector of n numbers of two bytes begins. -/
theorem startVector (w0 w : World) (B N0 r n n2 P : Nat) (K : List (Nat × Obj)) (xs : List Nat) (s : St) (h : Bx w0 w B N0 r K xs s) (hf : Fine N0 s) (hs : s.ne = false) (hn : n ≤ 1000) (hn2 : n2 = 2 * n) (hP : P = padOf 4 (xs.length + n2)) (hfit : xs.length + P + 4 + n2 < N0 * 2) (hma : 4 ≤ s.ma) :
    Calls Try.prog 39 #[.pointer (some ⟨B, 0, none⟩), .int .i64 2, .int .i64 (n : Int), .int .i64 2] w fun e w' => (∃ v, e = .returned (.int .u32 v)) ∧ Bx w0 w' B N0 (n2 + 4) K (List.replicate P 0 ++ xs) { s with ne := true } := by
  have K1 := Lib.hid (h.notNested hs)
  obtain ⟨_, _, _, _, c6, _, f6⟩ := h.cell
  have f6 := f6 6
  have e2 : (2 : Int) * (n : Int) = (n2 : Int) := by omega
  have hf2 : Fine N0 { s with ne := true } := hf
  have h2 := h.set 6 (.bool true) { s with ne := true } (fun _ _ _ _ => rfl)
  have K2 := Lib.hid (prepI w0 _ B N0 r (n2 + 4) 4 n2 P K xs { s with ne := true } h2 hf2 (by decide) (by omega) hP hfit (by omega) 4 n2 rfl rfl)
  have em : ({ s with ne := true, ma := mx s.ma 4 } : St) = { s with ne := true } := by
    have : mx s.ma 4 = s.ma := by unfold mx; rw [if_neg (by omega)]
    rw [this]
  have em2 : mx s.ma 2 = s.ma := by unfold mx; rw [if_neg (by omega)]
  have hP0 : padOf 2 ((List.replicate P 0 ++ xs).length + n2) = 0 := by
    rw [List.length_append, List.length_replicate, hP]; unfold padOf; omega
  have K3 := Lib.hid (fun w1 (h3 : Bx w0 w1 B N0 (n2 + 4) K (List.replicate P 0 ++ xs) { s with ne := true }) =>
    prepI w0 w1 B N0 (n2 + 4) (n2 + 4) 2 n2 0 K (List.replicate P 0 ++ xs) { s with ne := true } h3 hf2 (by decide) (by omega) hP0.symm (by rw [List.length_append, List.length_replicate]; omega) (by omega) 2 n2 rfl rfl)
  have K4 := Lib.hid (fun w1 (h3 : Bx w0 w1 B N0 (n2 + 4) K (List.replicate P 0 ++ xs) { s with ne := true }) => h3.offset _ rfl)
  have EM := Lib.hid em
  have EM2 := Lib.hid em2
  have bn : n2 ≤ 2000 := by omega
  clear h hf hs hn2 hP hfit hf2 h2 em em2 hP0
  go_enter Try.func39, Try.ntmps39
  go_wp2_with (first
    | (go_at_call 54; (with_reducible refine K1.out.mono ?_); rintro e w1 ⟨rfl, rfl⟩)
    | (go_at_call 36; (with_reducible refine K2.out.mono ?_); rintro e w1 ⟨rfl, h1⟩; have H1 := Lib.hid (bx_st h1 EM.out); clear h1)
    | (go_at_call 36; (with_reducible refine (K3.out _ H1.out).mono ?_); rintro e w2 ⟨rfl, h2⟩; have H2 := Lib.hid h2; simp only [EM2.out, List.replicate_zero, List.nil_append] at H2; clear h2)
    | (go_at_call 55; (with_reducible refine (K4.out _ H2.out).mono ?_); rintro e w3 ⟨rfl, m1, rfl⟩))
  go_ret
  exact ⟨⟨_, rfl⟩, H2.out.drewN m1⟩
end
end Go.Proofs.Ytegohkgmamnkdaa.Msg
