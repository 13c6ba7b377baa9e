/- The message's end: the identifier, the root's place, the bytes, walked. Condition: the builder grows once at most. -/
import Derived.Test.YtegohkgmamnkdaaGreatObj
import Derived.Laws.Cover3
set_option linter.unusedVariables false
namespace Go.Proofs.YtegohkgmamnkdaaGreat.Msg
open Go.ChangeShapes Go.WideShapes Go.ChangeAt Go.RowKit
open Go.Proofs.YtegohkgmamnkdaaGreat.Dig Go.Proofs.YtegohkgmamnkdaaGreat.Mem Go.Proofs.YtegohkgmamnkdaaGreat.Rb

set_option maxRecDepth 100000 in
set_option maxHeartbeats 1000000 in
theorem finishId (w0 w : World) (B N0 r P D q F : Nat) (K : List (Nat × Obj)) (fid xs : List Nat) (s : St) (h : Bx w0 w B N0 r K xs s) (hf : Fine N0 s) (hs : s.ne = false) (hma : s.ma = 4 ∨ s.ma = 8) (fr : Nat × Nat) (hF : (F, Obj.cells (bs fid).toArray 5 fr) ∈ K) (hfl : fid.length = 4) (hfb : ∀ x ∈ fid, x < 256)
    (hP : P = padOf s.ma (xs.length + 8)) (hfit : xs.length + 40 < N0 * 2) (hq : q ≤ xs.length) (hD : D = P + xs.length + 4 - q + 4) :
    Calls Tryz.prog 33 #[.pointer (some ⟨B, 0, none⟩), .int .u32 (q : Int), .slice (some ⟨F, 0, none⟩) 4 4] w fun e w' => e = .returned (.tuple #[]) ∧ Bx w0 w' B N0 0 K (le 4 D ++ (fid ++ (List.replicate P 0 ++ xs))) { s with fi := true } := by
  have hP8 : P < 8 := by rw [hP]; rcases hma with h1 | h1 <;> rw [h1] <;> have := padOf_lt 4 (xs.length + 8) (by omega) <;> have := padOf_lt 8 (xs.length + 8) (by omega) <;> omega
  have em1 : mx s.ma s.ma = s.ma := by unfold mx; split <;> rfl
  have K2 := Lib.hid (prepI w0 w B N0 r 8 s.ma 8 P K xs s h hf (by omega) (by omega) hP (by omega) (by omega) s.ma 8 rfl rfl)
  have E1 := Lib.hid (show ({ s with ma := mx s.ma s.ma } : St) = s by rw [em1])
  have c1 := h.cell.1
  have hl2 : (fid ++ (List.replicate P 0 ++ xs)).length = P + xs.length + 4 := by simp only [List.length_append, List.length_replicate, hfl]; omega
  have p2 : padOf s.ma ((fid ++ (List.replicate P 0 ++ xs)).length + 4) = 0 := by
    rw [hl2, hP]; unfold padOf; rcases hma with h1 | h1 <;> rw [h1] <;> omega
  have p3 : padOf 4 (0 + (fid ++ (List.replicate P 0 ++ xs)).length) = 0 := by
    rw [hl2, hP]; unfold padOf; rcases hma with h1 | h1 <;> rw [h1] <;> omega
  have K3 := Lib.hid fun (w2 : World) (h2 : Bx w0 w2 B N0 4 K (fid ++ (List.replicate P 0 ++ xs)) s) => finish w0 w2 B N0 4 0 D q K (fid ++ (List.replicate P 0 ++ xs)) s h2 hf hs hma p2.symm (by rw [hl2]; omega) p3 (by rw [hl2]; omega) (by rw [hl2]; omega)
  have FL := Lib.hid hfl
  have FB := Lib.hid hfb
  have FK := Lib.hid hF
  have hnil : ∀ w, (binOp .eql 26 (.slice (some ⟨F, 0, none⟩) 4 4) (.slice none 0 0)).run Tryz.prog w = .ok (.bool false) w := fun w => by
    have := run_equal_slice_nil (P := Tryz.prog) w 26 5 (some ⟨F, 0, none⟩) 4 4 Tryz.underlying26
    simp [binOp, this, Result.andThen]
  clear h hf hs hma hF hfl hfb hP hfit hq hD hl2 p2 p3 em1
  go_enter Tryz.func33, Tryz.ntmps33
  go_wp2_with (first
    | (go_at_call 66; (with_reducible refine K2.out.mono ?_); rintro e w2 ⟨rfl, h2⟩; have H2 := Lib.hid (bx_st h2 E1.out); clear h2))
  go_loopw [6] (fun iv wr => ∃ k : Nat, k ≤ 4 ∧ iv = .int .i64 ((k : Int) - 1) ∧ Bx w0 wr B N0 (4 + k) K (fid.drop k ++ (List.replicate P 0 ++ xs)) s) (fun iv _ => (intOf iv + 1).toNat)
  case atStart => exact ⟨4, by omega, rfl, by rw [List.drop_of_length_le (by rw [FL.out]; omega)]; exact H2.out⟩
  case round =>
    obtain ⟨k, hk, rfl, hb⟩ := hrel
    have HB := Lib.hid hb
    clear hb
    by_cases hk0 : k = 0
    · subst hk0
      have K4 := Lib.hid (K3.out _ HB.out)
      go_wp2_with (go_at_call 79; (with_reducible refine K4.out.mono ?_); rintro e w3 ⟨rfl, h3⟩; have H3 := Lib.hid h3; clear h3)
      go_end0
      exact ⟨rfl, H3.out⟩
    · obtain ⟨k1, hk1⟩ : ∃ k1, k = k1 + 1 := ⟨k - 1, by omega⟩
      rw [show ((k : Int) - 1) = (k1 : Int) by omega]
      obtain ⟨x, hx⟩ : ∃ x, x = fid.getD k1 0 := ⟨_, rfl⟩
      have hkl : k1 < fid.length := by rw [FL.out]; omega
      have gx : wr.cell? ⟨F, k1, none⟩ = some (.int .u8 (x : Int)) := by
        have := (HB.out.keep _ FK.out).1
        simp only [World.cell?, this]
        rw [hx]
        simpa using bs_get hkl
      have hxb : x < 256 := by rw [hx]; exact getD_lt FB.out hkl
      have hd : fid.drop k1 = x :: fid.drop k := by
        rw [List.drop_eq_getElem_cons hkl, hx, List.getD_eq_getElem?_getD, List.getElem?_eq_getElem hkl, hk1]; rfl
      have K4 := Lib.hid ((show Bx w0 wr B N0 ((4 + k1) + 1) K (fid.drop k ++ (List.replicate P 0 ++ xs)) s from by have := HB.out; rw [hk1] at this ⊢; exact this).placeByte x hxb)
      have HD := Lib.hid hd
      have HK1 := Lib.hid hk1
      have hk4 : k1 < 4 := by omega
      clear hx hkl hd hk1
      go_wp2_with (go_at_call 78; (with_reducible refine K4.out.mono ?_); rintro e w3 ⟨rfl, h3⟩; have H3 := Lib.hid h3; clear h3)
      go_roundw
      case rel =>
        refine ⟨k1, by omega, by go_num, ?_⟩
        rw [HD.out]
        have := H3.out
        rw [show le 1 x = [x] by simp [le]; omega] at this
        exact this
      case measure => have := HK1.out; simp [intOf]; try omega


theorem assertFinished (w : World) (B : Nat) (c7 : w.cell? ⟨B, 7, none⟩ = some (.bool true)) :
    Calls Tryz.prog 81 #[.pointer (some ⟨B, 0, none⟩)] w fun e w' => e = .returned (.tuple #[]) ∧ w = w' := by
  go_enter Tryz.func81, Tryz.ntmps81
  go_wp2
  go_end0
  exact ⟨rfl, rfl⟩
set_option maxRecDepth 100000 in
theorem finishedBytes (w0 w : World) (B N0 r L : Nat) (K : List (Nat × Obj)) (xs : List Nat) (s : St) (h : Bx w0 w B N0 r K xs s) (hs : s.fi = true) (hL : L = xs.length) (h0 : 0 < L) :
    Calls Tryz.prog 35 #[.pointer (some ⟨B, 0, none⟩)] w fun e w' => ∃ g o c, e = .returned (.slice (some ⟨g, o, none⟩) L c) ∧ RB w' (some ⟨g, o, none⟩) L c xs ∧ w0.heap.size ≤ g ∧ Below w0.heap.size w0 w' := by
  obtain ⟨g, N, C, H, hx⟩ := h
  have c7 : w.cell? ⟨B, 7, none⟩ = some (.bool true) := by have := hx.bd.cell 7; rw [← hs]; exact this
  have c0 : w.cell? ⟨B, 0, none⟩ = some (.slice (some ⟨g, 0, none⟩) N C) := hx.bd.cell 0
  have hl := hx.bd.len
  have C1 := cutLo (k := .u32) g N C H (by omega) hl.2.1 (by omega)
  obtain ⟨Z, hz⟩ := hx.bd
  have hbl := hz.buf
  have hb2 : Blk w g C (Z ++ (xs ++ [])) := by rw [List.append_nil]; exact hbl
  have hrb := rb_of_blk (c := C - H) hb2 hz.hZ.symm hL.symm (by omega) (Nat.le_trans (Nat.sub_le _ _) hz.cm) hz.byte
  rw [cutA_at g C H (by omega)] at hrb
  have KN := Lib.hid (assertFinished w B c7)
  have KH := Lib.hid fun m => head (w.drewN m) B g N C H xs s (hx.bd.drewN m)
  have hNL : N - H = L := by omega
  rw [hNL] at C1
  have HRB := Lib.hid fun m => rb_wr (S := []) hrb ((Wr.refl _ w).drewN m) (by simp)
  have HG := Lib.hid hx.hg
  have HBL := Lib.hid fun m => bdn hx.bel m
  have bH : H ≤ 10000000 := by omega
  clear hx hl hz hbl hb2 hrb hs hL hNL
  go_enter Tryz.func35, Tryz.ntmps35
  go_wp2_with (go_at_call 81; (with_reducible refine KN.out.mono ?_); rintro e w1 ⟨rfl, rfl⟩)
  go_quiet ((go_at_call 67; exact quiet_left (KH.out _)))
  go_wp2_with fail
  go_ret
  exact ⟨g, H, C - H, rfl, HRB.out _, HG.out, HBL.out _⟩
end Go.Proofs.YtegohkgmamnkdaaGreat.Msg
