/- A builder of messages: where it stands, and zeros placed, walked. Condition: room for them. -/
import Derived.Test.YtegohkgmamnkdaaGreatBld2
set_option linter.unusedVariables false
namespace Go.Proofs.YtegohkgmamnkdaaGreat.Msg
open Go.ChangeShapes Go.WideShapes Go.ChangeAt Go.RowKit
open Go.Proofs.YtegohkgmamnkdaaGreat.Dig Go.Proofs.YtegohkgmamnkdaaGreat.Mem Go.Proofs.YtegohkgmamnkdaaGreat.Rb

theorem Bd.cell {w : World} {B g N C H : Nat} {xs : List Nat} {s : St} (h : Bd w B g N C H xs s) (i : Nat) : w.cell? ⟨B, i, none⟩ = (s.cells g N C H)[i]? := by
  obtain ⟨Z, h⟩ := h; exact h.cell i
theorem Bd.free {w : World} {B g N C H : Nat} {xs : List Nat} {s : St} (h : Bd w B g N C H xs s) (i : Nat) : w.frozen? ⟨B, i, none⟩ = false := by
  obtain ⟨Z, h⟩ := h; exact h.free i
theorem Bd.len {w : World} {B g N C H : Nat} {xs : List Nat} {s : St} (h : Bd w B g N C H xs s) : N = H + xs.length ∧ N ≤ C ∧ N ≤ 10000000 := by
  obtain ⟨Z, h⟩ := h; exact ⟨h.hN, h.hC, h.top⟩
theorem Bd.drewN {w : World} {B g N C H : Nat} {xs : List Nat} {s : St} (h : Bd w B g N C H xs s) (m : Nat) : Bd (w.drewN m) B g N C H xs s := by
  obtain ⟨Z, h⟩ := h; exact ⟨Z, h.drewN m⟩
theorem Bd.later {w w' : World} {B g N C H : Nat} {xs : List Nat} {s : St} {S : List Nat} (h : Bd w B g N C H xs s) (hb : Wr S w w') (h1 : B ∉ S) (h2 : g ∉ S) : Bd w' B g N C H xs s := by
  obtain ⟨Z, h⟩ := h; exact ⟨Z, h.later hb h1 h2⟩
/-- A field of the builder's alone is written. -/
theorem Bd.set {w : World} {B g N C H : Nat} {xs : List Nat} {s : St} (h : Bd w B g N C H xs s) (i : Nat) (v : Value) (s' : St) (e : (s.cells g N C H).setIfInBounds i v = s'.cells g N C H) :
    Bd (w.setCell ⟨B, i, none⟩ v) B g N C H xs s' ∧ Wr [B, g] w (w.setCell ⟨B, i, none⟩ v) := by
  obtain ⟨Z, h⟩ := h
  obtain ⟨r1, r2⟩ := h.set i v g N C H s' e
  exact ⟨⟨Z, r1, r2, h.hZ, h.hN, h.hC, h.hne, h.byte, h.zb, h.top, h.cm⟩, Wr.setCell w v (by simp)⟩

theorem head (w : World) (B g N C H : Nat) (xs : List Nat) (s : St) (h : Bd w B g N C H xs s) :
    Calls Tryz.prog 67 #[.pointer (some ⟨B, 0, none⟩)] w fun e w' => e = .returned (.int .u32 (H : Int)) ∧ w = w' := by
  have c5 : w.cell? ⟨B, 5, none⟩ = some (.int .u32 (H : Int)) := h.cell 5
  clear h
  go_enter Tryz.func67, Tryz.ntmps67
  go_wp2
  go_ret
  exact ⟨rfl, rfl⟩

theorem offset (w : World) (B g N C H L : Nat) (xs : List Nat) (s : St) (h : Bd w B g N C H xs s) (hL : L = xs.length) :
    Calls Tryz.prog 95 #[.pointer (some ⟨B, 0, none⟩)] w fun e w' => e = .returned (.int .u32 (L : Int)) ∧ ∃ m, w' = w.drewN m := by
  have c5 : w.cell? ⟨B, 5, none⟩ = some (.int .u32 (H : Int)) := h.cell 5
  have c0 : w.cell? ⟨B, 0, none⟩ = some (.slice (some ⟨g, 0, none⟩) N C) := h.cell 0
  have hl := h.len
  have s1 : (N : Int) - (H : Int) = (L : Int) := by omega
  have b1 : N ≤ 10000000 := by omega
  have b2 : H ≤ N := by omega
  clear h hl hL
  go_enter Tryz.func95, Tryz.ntmps95
  go_wp2_with fail
  go_quiet (fail)
  go_wp2_with fail
  go_ret
  exact ⟨rfl, _, rfl⟩

theorem notNested (w : World) (B g N C H : Nat) (xs : List Nat) (s : St) (h : Bd w B g N C H xs s) (hs : s.ne = false) :
    Calls Tryz.prog 94 #[.pointer (some ⟨B, 0, none⟩)] w fun e w' => e = .returned (.tuple #[]) ∧ w = w' := by
  have c5 : w.cell? ⟨B, 6, none⟩ = some (.bool false) := by rw [h.cell 6]; simp [St.cells, hs]
  clear h hs
  go_enter Tryz.func94, Tryz.ntmps94
  go_wp2
  go_end0
  exact ⟨rfl, rfl⟩
theorem nested (w : World) (B g N C H : Nat) (xs : List Nat) (s : St) (h : Bd w B g N C H xs s) (hs : s.ne = true) :
    Calls Tryz.prog 97 #[.pointer (some ⟨B, 0, none⟩)] w fun e w' => e = .returned (.tuple #[]) ∧ w = w' := by
  have c5 : w.cell? ⟨B, 6, none⟩ = some (.bool true) := by rw [h.cell 6]; simp [St.cells, hs]
  clear h hs
  go_enter Tryz.func97, Tryz.ntmps97
  go_wp2
  go_end0
  exact ⟨rfl, rfl⟩

theorem placeZero (w : World) (B g N C H0 H : Nat) (xs : List Nat) (s : St) (h : Bd w B g N C H0 xs s) (hH : H0 = H + 1) :
    Calls Tryz.prog 78 #[.pointer (some ⟨B, 0, none⟩), .int .u8 0] w fun e w' => e = .returned (.tuple #[]) ∧ Bd w' B g N C H (0 :: xs) s ∧ Wr [B, g] w w' :=
  placeByte w B g N C H0 H 0 xs s h hH (by omega)

theorem pad (w : World) (B g N C H0 H n : Nat) (xs : List Nat) (s : St) (h : Bd w B g N C H0 xs s) (hH : H0 = H + n) (hn : n ≤ 100) :
    Calls Tryz.prog 93 #[.pointer (some ⟨B, 0, none⟩), .int .i64 (n : Int)] w fun e w' => e = .returned (.tuple #[]) ∧ Bd w' B g N C H (List.replicate n 0 ++ xs) s ∧ Wr [B, g] w w' := by
  have HB := Lib.hid h
  have HH := Lib.hid hH
  clear h hH
  go_enter Tryz.func93, Tryz.ntmps93
  go_wp2_with fail
  go_loopw [4] (fun iv wr => ∃ k : Nat, k ≤ n ∧ iv = .int .i64 (k : Int) ∧ Bd wr B g N C (H + (n - k)) (List.replicate k 0 ++ xs) s ∧ Wr [B, g] w wr) (fun iv _ => n - (intOf iv).toNat)
  case atStart => exact ⟨0, by omega, rfl, by rw [Nat.sub_zero, ← HH.out]; exact HB.out, Wr.refl _ _⟩
  case round =>
    obtain ⟨k, hk, rfl, hb, hw⟩ := hrel
    have HB1 := Lib.hid hb
    have HW1 := Lib.hid hw
    clear hb hw
    by_cases hlt : k < n
    · have K := Lib.hid (placeZero wr B g N C (H + (n - k)) (H + (n - (k + 1))) (List.replicate k 0 ++ xs) s HB1.out (by omega))
      go_wp2_with (go_at_call 78; (with_reducible refine K.out.mono ?_); rintro e w1 ⟨rfl, h1, h2⟩; have H1 := Lib.hid h1; have H2 := Lib.hid h2; clear h1 h2)
      go_roundw
      case rel => exact ⟨k + 1, by omega, by go_num, H1.out, HW1.out.trans H2.out⟩
      case measure => simp [intOf]; omega
    · obtain rfl : k = n := by omega
      go_wp2_with fail
      go_end0
      have := HB1.out
      rw [Nat.sub_self] at this
      exact ⟨rfl, this, HW1.out⟩
end Go.Proofs.YtegohkgmamnkdaaGreat.Msg
