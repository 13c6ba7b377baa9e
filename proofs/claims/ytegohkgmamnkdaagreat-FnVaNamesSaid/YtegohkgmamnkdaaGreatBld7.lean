/- A builder of messages: numbers put ahead of what it holds, each at its place, walked. Condition: it grows once at most. -/
import Derived.Test.YtegohkgmamnkdaaGreatBld6
set_option linter.unusedVariables false
namespace Go.Proofs.YtegohkgmamnkdaaGreat.Msg
open Go.ChangeShapes Go.WideShapes Go.ChangeAt Go.RowKit
open Go.Proofs.YtegohkgmamnkdaaGreat.Dig Go.Proofs.YtegohkgmamnkdaaGreat.Mem Go.Proofs.YtegohkgmamnkdaaGreat.Rb

def Fine (N0 : Nat) (s : St) : Prop := N0 ≤ 100000 ∧ 0 < N0 ∧ s.ma ≤ 100
theorem padOf_lt (sz n : Nat) (h : 0 < sz) : padOf sz n < sz := Nat.mod_lt _ h
theorem prepI (w0 w : World) (B N0 r r' sz ad P : Nat) (K : List (Nat × Obj)) (xs : List Nat) (s : St) (h : Bx w0 w B N0 r K xs s) (hf : Fine N0 s) (hs : sz = 1 ∨ sz = 2 ∨ sz = 4 ∨ sz = 8) (had : ad ≤ 100000)
    (hP : P = padOf sz (xs.length + ad)) (hfit : xs.length + P + sz + ad < N0 * 2) (hr' : r' ≤ sz + ad + 1 ∨ r' + P ≤ r) (S A : Int) (hS : S = (sz : Int)) (hA : A = (ad : Int)) :
    Calls Tryz.prog 66 #[.pointer (some ⟨B, 0, none⟩), .int .i64 S, .int .i64 A] w fun e w' => e = .returned (.tuple #[]) ∧ Bx w0 w' B N0 r' K (List.replicate P 0 ++ xs) { s with ma := mx s.ma sz } := by
  subst hS hA
  exact prep w0 w B N0 r r' sz ad P K xs s h hs hf.1 hf.2.1 had hf.2.2 hP hfit hr'
theorem Bx.offset {w0 w : World} {B N0 r : Nat} {K : List (Nat × Obj)} {xs : List Nat} {s : St} (h : Bx w0 w B N0 r K xs s) (L : Nat) (hL : L = xs.length) :
    Calls Tryz.prog 95 #[.pointer (some ⟨B, 0, none⟩)] w fun e w' => e = .returned (.int .u32 (L : Int)) ∧ ∃ m, w' = w.drewN m := by
  obtain ⟨g, N, C, H, h⟩ := h
  exact Msg.offset w B g N C H L xs s h.bd hL
theorem Bx.drewN {w0 w : World} {B N0 r : Nat} {K : List (Nat × Obj)} {xs : List Nat} {s : St} (h : Bx w0 w B N0 r K xs s) (m : Nat) : Bx w0 (w.drewN m) B N0 r K xs s := by
  obtain ⟨g, N, C, H, h⟩ := h
  exact ⟨g, N, C, H, h.drewN m⟩
theorem Bx.top {w0 w : World} {B N0 r : Nat} {K : List (Nat × Obj)} {xs : List Nat} {s : St} (h : Bx w0 w B N0 r K xs s) : xs.length + r ≤ N0 * 2 := by
  obtain ⟨g, N, C, H, h⟩ := h
  have := h.nn
  have := h.bd.len
  have := h.room
  omega
theorem Bx.cell {w0 w : World} {B N0 r : Nat} {K : List (Nat × Obj)} {xs : List Nat} {s : St} (h : Bx w0 w B N0 r K xs s) :
    w.cell? ⟨B, 1, none⟩ = some (.int .i64 (s.ma : Int)) ∧ w.cell? ⟨B, 2, none⟩ = some s.vt ∧ w.cell? ⟨B, 3, none⟩ = some (.int .u32 (s.oe : Int)) ∧ w.cell? ⟨B, 4, none⟩ = some s.vts ∧ w.cell? ⟨B, 6, none⟩ = some (.bool s.ne) ∧ w.cell? ⟨B, 7, none⟩ = some (.bool s.fi) ∧ ∀ i, w.frozen? ⟨B, i, none⟩ = false := by
  obtain ⟨g, N, C, H, h⟩ := h
  exact ⟨h.bd.cell 1, h.bd.cell 2, h.bd.cell 3, h.bd.cell 4, h.bd.cell 6, h.bd.cell 7, fun i => h.bd.free i⟩
/-- A field is written. -/
theorem Bx.set {w0 w : World} {B N0 r : Nat} {K : List (Nat × Obj)} {xs : List Nat} {s : St} (h : Bx w0 w B N0 r K xs s) (i : Nat) (v : Value) (s' : St) (e : ∀ g N C H, (s.cells g N C H).setIfInBounds i v = s'.cells g N C H) :
    Bx w0 (w.setCell ⟨B, i, none⟩ v) B N0 r K xs s' := by
  obtain ⟨g, N, C, H, h⟩ := h
  obtain ⟨h1, h2⟩ := h.bd.set i v s' (e _ _ _ _)
  exact ⟨g, N, C, H, h.step h1 h2 h.room⟩

theorem Bx.placeByte {w0 w : World} {B N0 r : Nat} {K : List (Nat × Obj)} {xs : List Nat} {s : St} (h : Bx w0 w B N0 (r + 1) K xs s) (v : Nat) (hv : v < 256) :
    Calls Tryz.prog 78 #[.pointer (some ⟨B, 0, none⟩), .int .u8 (v : Int)] w fun e w' => e = .returned (.tuple #[]) ∧ Bx w0 w' B N0 r K (le 1 v ++ xs) s := by
  obtain ⟨g, N, C, H, h⟩ := h
  have := h.room
  exact (Msg.placeByte w B g N C H (H - 1) v xs s h.bd (by omega) hv).mono fun e w' ⟨e1, e2, e3⟩ => ⟨e1, g, N, C, H - 1, h.step e2 e3 (by omega)⟩

theorem Bx.placeU16 {w0 w : World} {B N0 r : Nat} {K : List (Nat × Obj)} {xs : List Nat} {s : St} (h : Bx w0 w B N0 (r + 2) K xs s) (v : Nat) (hv : v < 65536) :
    Calls Tryz.prog 96 #[.pointer (some ⟨B, 0, none⟩), .int .u16 (v : Int)] w fun e w' => e = .returned (.tuple #[]) ∧ Bx w0 w' B N0 r K (le 2 v ++ xs) s := by
  obtain ⟨g, N, C, H, h⟩ := h
  have := h.room
  exact (Msg.placeU16 w B g N C H (H - 2) v xs s h.bd (by omega) hv).mono fun e w' ⟨e1, e2, e3⟩ => ⟨e1, g, N, C, H - 2, h.step e2 e3 (by omega)⟩

theorem Bx.placeVO {w0 w : World} {B N0 r : Nat} {K : List (Nat × Obj)} {xs : List Nat} {s : St} (h : Bx w0 w B N0 (r + 2) K xs s) (v : Nat) (hv : v < 65536) :
    Calls Tryz.prog 165 #[.pointer (some ⟨B, 0, none⟩), .int .u16 (v : Int)] w fun e w' => e = .returned (.tuple #[]) ∧ Bx w0 w' B N0 r K (le 2 v ++ xs) s := by
  obtain ⟨g, N, C, H, h⟩ := h
  have := h.room
  exact (Msg.placeVO w B g N C H (H - 2) v xs s h.bd (by omega) hv).mono fun e w' ⟨e1, e2, e3⟩ => ⟨e1, g, N, C, H - 2, h.step e2 e3 (by omega)⟩

theorem Bx.placeUO {w0 w : World} {B N0 r : Nat} {K : List (Nat × Obj)} {xs : List Nat} {s : St} (h : Bx w0 w B N0 (r + 4) K xs s) (v : Nat) (hv : v < 4294967296) :
    Calls Tryz.prog 98 #[.pointer (some ⟨B, 0, none⟩), .int .u32 (v : Int)] w fun e w' => e = .returned (.tuple #[]) ∧ Bx w0 w' B N0 r K (le 4 v ++ xs) s := by
  obtain ⟨g, N, C, H, h⟩ := h
  have := h.room
  exact (Msg.placeUO w B g N C H (H - 4) v xs s h.bd (by omega) hv).mono fun e w' ⟨e1, e2, e3⟩ => ⟨e1, g, N, C, H - 4, h.step e2 e3 (by omega)⟩

theorem Bx.placeSO {w0 w : World} {B N0 r : Nat} {K : List (Nat × Obj)} {xs : List Nat} {s : St} (h : Bx w0 w B N0 (r + 4) K xs s) (v : Nat) (hv : v < 2147483648) :
    Calls Tryz.prog 163 #[.pointer (some ⟨B, 0, none⟩), .int .i32 (v : Int)] w fun e w' => e = .returned (.tuple #[]) ∧ Bx w0 w' B N0 r K (le 4 v ++ xs) s := by
  obtain ⟨g, N, C, H, h⟩ := h
  have := h.room
  exact (Msg.placeSO w B g N C H (H - 4) v xs s h.bd (by omega) hv).mono fun e w' ⟨e1, e2, e3⟩ => ⟨e1, g, N, C, H - 4, h.step e2 e3 (by omega)⟩

theorem Bx.placeU64 {w0 w : World} {B N0 r : Nat} {K : List (Nat × Obj)} {xs : List Nat} {s : St} (h : Bx w0 w B N0 (r + 8) K xs s) (v : Nat) (hv : v < 18446744073709551616) :
    Calls Tryz.prog 129 #[.pointer (some ⟨B, 0, none⟩), .int .u64 (v : Int)] w fun e w' => e = .returned (.tuple #[]) ∧ Bx w0 w' B N0 r K (le 8 v ++ xs) s := by
  obtain ⟨g, N, C, H, h⟩ := h
  have := h.room
  exact (Msg.placeU64 w B g N C H (H - 8) v xs s h.bd (by omega) hv).mono fun e w' ⟨e1, e2, e3⟩ => ⟨e1, g, N, C, H - 8, h.step e2 e3 (by omega)⟩

set_option maxRecDepth 100000 in
theorem prependByte (w0 w : World) (B N0 r r' P v : Nat) (K : List (Nat × Obj)) (xs : List Nat) (s : St) (h : Bx w0 w B N0 r K xs s) (hf : Fine N0 s) (hP : P = padOf 1 xs.length) (hfit : xs.length + P + 1 < N0 * 2) (hv : v < 256)
    (hr' : r' = 0 ∨ r' + 1 + P ≤ r) :
    Calls Tryz.prog 103 #[.pointer (some ⟨B, 0, none⟩), .int .u8 (v : Int)] w fun e w' => e = .returned (.tuple #[]) ∧ Bx w0 w' B N0 r' K (le 1 v ++ (List.replicate P 0 ++ xs)) { s with ma := mx s.ma 1 } := by
  have K1 := Lib.hid (prepI w0 w B N0 r (r' + 1) 1 0 P K xs s h hf (by decide) (by omega) hP (by omega) (by omega) 1 0 rfl rfl)
  clear h hf hP hfit hr'
  go_enter Tryz.func103, Tryz.ntmps103
  go_wp2_with (first
    | (go_at_call 66; (with_reducible refine K1.out.mono ?_); rintro e w1 ⟨rfl, h1⟩; have H1 := Lib.hid h1; clear h1)
    | (go_at_call 78; (with_reducible refine (H1.out.placeByte v hv).mono ?_); rintro e w2 ⟨rfl, h2⟩; have H2 := Lib.hid h2; clear h2))
  go_end0
  exact ⟨rfl, H2.out⟩

set_option maxRecDepth 100000 in
theorem prependU16 (w0 w : World) (B N0 r r' P v : Nat) (K : List (Nat × Obj)) (xs : List Nat) (s : St) (h : Bx w0 w B N0 r K xs s) (hf : Fine N0 s) (hP : P = padOf 2 xs.length) (hfit : xs.length + P + 2 < N0 * 2) (hv : v < 65536)
    (hr' : r' = 0 ∨ r' + 2 + P ≤ r) :
    Calls Tryz.prog 70 #[.pointer (some ⟨B, 0, none⟩), .int .u16 (v : Int)] w fun e w' => e = .returned (.tuple #[]) ∧ Bx w0 w' B N0 r' K (le 2 v ++ (List.replicate P 0 ++ xs)) { s with ma := mx s.ma 2 } := by
  have K1 := Lib.hid (prepI w0 w B N0 r (r' + 2) 2 0 P K xs s h hf (by decide) (by omega) hP (by omega) (by omega) 2 0 rfl rfl)
  clear h hf hP hfit hr'
  go_enter Tryz.func70, Tryz.ntmps70
  go_wp2_with (first
    | (go_at_call 66; (with_reducible refine K1.out.mono ?_); rintro e w1 ⟨rfl, h1⟩; have H1 := Lib.hid h1; clear h1)
    | (go_at_call 96; (with_reducible refine (H1.out.placeU16 v hv).mono ?_); rintro e w2 ⟨rfl, h2⟩; have H2 := Lib.hid h2; clear h2))
  go_end0
  exact ⟨rfl, H2.out⟩

set_option maxRecDepth 100000 in
theorem prependVO (w0 w : World) (B N0 r r' P v : Nat) (K : List (Nat × Obj)) (xs : List Nat) (s : St) (h : Bx w0 w B N0 r K xs s) (hf : Fine N0 s) (hP : P = padOf 2 xs.length) (hfit : xs.length + P + 2 < N0 * 2) (hv : v < 65536)
    (hr' : r' = 0 ∨ r' + 2 + P ≤ r) :
    Calls Tryz.prog 134 #[.pointer (some ⟨B, 0, none⟩), .int .u16 (v : Int)] w fun e w' => e = .returned (.tuple #[]) ∧ Bx w0 w' B N0 r' K (le 2 v ++ (List.replicate P 0 ++ xs)) { s with ma := mx s.ma 2 } := by
  have K1 := Lib.hid (prepI w0 w B N0 r (r' + 2) 2 0 P K xs s h hf (by decide) (by omega) hP (by omega) (by omega) 2 0 rfl rfl)
  clear h hf hP hfit hr'
  go_enter Tryz.func134, Tryz.ntmps134
  go_wp2_with (first
    | (go_at_call 66; (with_reducible refine K1.out.mono ?_); rintro e w1 ⟨rfl, h1⟩; have H1 := Lib.hid h1; clear h1)
    | (go_at_call 165; (with_reducible refine (H1.out.placeVO v hv).mono ?_); rintro e w2 ⟨rfl, h2⟩; have H2 := Lib.hid h2; clear h2))
  go_end0
  exact ⟨rfl, H2.out⟩

set_option maxRecDepth 100000 in
theorem prependU64 (w0 w : World) (B N0 r r' P v : Nat) (K : List (Nat × Obj)) (xs : List Nat) (s : St) (h : Bx w0 w B N0 r K xs s) (hf : Fine N0 s) (hP : P = padOf 8 xs.length) (hfit : xs.length + P + 8 < N0 * 2) (hv : v < 18446744073709551616)
    (hr' : r' = 0 ∨ r' + 8 + P ≤ r) :
    Calls Tryz.prog 102 #[.pointer (some ⟨B, 0, none⟩), .int .u64 (v : Int)] w fun e w' => e = .returned (.tuple #[]) ∧ Bx w0 w' B N0 r' K (le 8 v ++ (List.replicate P 0 ++ xs)) { s with ma := mx s.ma 8 } := by
  have K1 := Lib.hid (prepI w0 w B N0 r (r' + 8) 8 0 P K xs s h hf (by decide) (by omega) hP (by omega) (by omega) 8 0 rfl rfl)
  clear h hf hP hfit hr'
  go_enter Tryz.func102, Tryz.ntmps102
  go_wp2_with (first
    | (go_at_call 66; (with_reducible refine K1.out.mono ?_); rintro e w1 ⟨rfl, h1⟩; have H1 := Lib.hid h1; clear h1)
    | (go_at_call 129; (with_reducible refine (H1.out.placeU64 v hv).mono ?_); rintro e w2 ⟨rfl, h2⟩; have H2 := Lib.hid h2; clear h2))
  go_end0
  exact ⟨rfl, H2.out⟩

set_option maxRecDepth 100000 in
/-- A distance to what stands further on, off bytes from the end. -/
theorem prependUO (w0 w : World) (B N0 r P off D : Nat) (K : List (Nat × Obj)) (xs : List Nat) (s : St) (h : Bx w0 w B N0 r K xs s) (hf : Fine N0 s) (hP : P = padOf 4 xs.length) (hfit : xs.length + P + 4 < N0 * 2) (hoff : off ≤ xs.length)
    (hD : D = xs.length + P - off + 4) :
    Calls Tryz.prog 100 #[.pointer (some ⟨B, 0, none⟩), .int .u32 (off : Int)] w fun e w' => e = .returned (.tuple #[]) ∧ Bx w0 w' B N0 0 K (le 4 D ++ (List.replicate P 0 ++ xs)) { s with ma := mx s.ma 4 } := by
  have K1 := Lib.hid (prepI w0 w B N0 r (0 + 4) 4 0 P K xs s h hf (by decide) (by omega) hP (by omega) (by omega) 4 0 rfl rfl)
  obtain ⟨L, hL⟩ : ∃ L, L = (List.replicate P 0 ++ xs).length := ⟨_, rfl⟩
  have hL2 : L = P + xs.length := by rw [hL, List.length_append, List.length_replicate]
  have hN := hf.1
  have s1 : (off : Int) ≤ (L : Int) := by omega
  obtain ⟨D0, hD0⟩ : ∃ D0, D0 = L - off := ⟨_, rfl⟩
  have s2 : (L : Int) - (off : Int) = (D0 : Int) := by omega
  have s3 : (D0 : Int) + 4 = (D : Int) := by omega
  have hDlt : D < 4294967296 := by omega
  have b1 : L ≤ 200000 := by omega
  have HL := Lib.hid hL
  clear h hf hP hfit hoff hD hL2 hN hL hD0
  go_enter Tryz.func100, Tryz.ntmps100
  go_wp2_with (first
    | (go_at_call 66; (with_reducible refine K1.out.mono ?_); rintro e w1 ⟨rfl, h1⟩; have H1 := Lib.hid h1; clear h1)
    | (go_at_call 95; (with_reducible refine (H1.out.offset L HL.out).mono ?_); rintro e w2 ⟨rfl, m1, rfl⟩)
    | (go_at_call 95; (with_reducible refine ((H1.out.drewN _).offset L HL.out).mono ?_); rintro e w2 ⟨rfl, m2, rfl⟩)
    | (go_at_call 98; (with_reducible refine ((H1.out.drewN _).placeUO D hDlt).mono ?_); rintro e w2 ⟨rfl, h2⟩; have H2 := Lib.hid h2; clear h2))
  go_end0
  exact ⟨rfl, H2.out⟩

set_option maxRecDepth 100000 in
theorem prependSO (w0 w : World) (B N0 r P D : Nat) (K : List (Nat × Obj)) (xs : List Nat) (s : St) (h : Bx w0 w B N0 r K xs s) (hf : Fine N0 s) (hP : P = padOf 4 xs.length) (hfit : xs.length + P + 4 < N0 * 2)
    (hD : D = xs.length + P + 4) :
    Calls Tryz.prog 131 #[.pointer (some ⟨B, 0, none⟩), .int .i32 0] w fun e w' => e = .returned (.tuple #[]) ∧ Bx w0 w' B N0 0 K (le 4 D ++ (List.replicate P 0 ++ xs)) { s with ma := mx s.ma 4 } := by
  have K1 := Lib.hid (prepI w0 w B N0 r (0 + 4) 4 0 P K xs s h hf (by decide) (by omega) hP (by omega) (by omega) 4 0 rfl rfl)
  obtain ⟨L, hL⟩ : ∃ L, L = (List.replicate P 0 ++ xs).length := ⟨_, rfl⟩
  have hL2 : L = P + xs.length := by rw [hL, List.length_append, List.length_replicate]
  have hN := hf.1
  have s3 : (L : Int) + 4 = (D : Int) := by omega
  have hDlt : D < 2147483648 := by omega
  have b1 : L ≤ 200000 := by omega
  have HL := Lib.hid hL
  clear h hf hP hfit hD hL2 hN hL
  go_enter Tryz.func131, Tryz.ntmps131
  go_wp2_with (first
    | (go_at_call 66; (with_reducible refine K1.out.mono ?_); rintro e w1 ⟨rfl, h1⟩; have H1 := Lib.hid h1; clear h1)
    | (go_at_call 95; (with_reducible refine (H1.out.offset L HL.out).mono ?_); rintro e w2 ⟨rfl, m1, rfl⟩)
    | (go_at_call 95; (with_reducible refine ((H1.out.drewN _).offset L HL.out).mono ?_); rintro e w2 ⟨rfl, m2, rfl⟩)
    | (go_at_call 163; (with_reducible refine ((H1.out.drewN _).placeSO D hDlt).mono ?_); rintro e w2 ⟨rfl, h2⟩; have H2 := Lib.hid h2; clear h2))
  go_end0
  exact ⟨rfl, H2.out⟩
end Go.Proofs.YtegohkgmamnkdaaGreat.Msg
