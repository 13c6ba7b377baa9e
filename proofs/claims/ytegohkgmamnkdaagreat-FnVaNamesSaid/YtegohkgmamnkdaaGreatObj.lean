/- An object's start and end, walked. Condition: the builder grows once at most. -/
import Derived.Test.YtegohkgmamnkdaaGreatVt1
set_option linter.unusedVariables false
namespace Go.Proofs.YtegohkgmamnkdaaGreat.Msg
open Go.ChangeShapes Go.WideShapes Go.ChangeAt Go.RowKit
open Go.Proofs.YtegohkgmamnkdaaGreat.Dig Go.Proofs.YtegohkgmamnkdaaGreat.Mem Go.Proofs.YtegohkgmamnkdaaGreat.Rb

theorem made_us (n : Nat) : madeCells #[Value.int .u32 0] n = (us (List.replicate n 0)).toArray := by
  apply Array.toList_inj.1
  rw [toList_madeCells_one]
  simp [us]

set_option maxRecDepth 100000 in
set_option maxHeartbeats 1000000 in
theorem startObject (w0 w : World) (B N0 r n L : Nat) (K : List (Nat × Obj)) (xs : List Nat) (s : St) (h : Bx w0 w B N0 r K xs s) (hs : s.ne = false) (hvt : s.vt = .slice none 0 0) (hn : n ≤ 20) (hn0 : 0 < n) (hL : L = xs.length) (Ni : Int) (hNi : Ni = (n : Int)) :
    Calls Tryz.prog 74 #[.pointer (some ⟨B, 0, none⟩), .int .i64 Ni] w fun e w' => e = .returned (.tuple #[]) ∧
      Bx w0 w' B N0 r ((w.heap.size, UO (List.replicate n 0)) :: K) xs { s with ne := true, vt := .slice (some ⟨w.heap.size, 0, none⟩) n n, oe := L } := by
  subst hNi
  have K1 := Lib.hid (h.notNested hs)
  obtain ⟨_, c2, c3, _, c6, _, ff⟩ := h.cell
  rw [hvt] at c2
  have f6 := ff 6
  have h2 := h.set 6 (.bool true) { s with ne := true } (fun _ _ _ _ => rfl)
  have d2 := h2.cell.2.1
  rw [show ({ s with ne := true } : St).vt = .slice none 0 0 from hvt] at d2
  have h3 := h2.push (.cells (madeCells #[Value.int .u32 0] n) 50)
  have f2 := h3.cell.2.2.2.2.2.2 2
  have c2A := h3.cell.2.1
  obtain ⟨iU, hiU, hz0, hz1, hz2⟩ := info_parts infoUO
  have hsz : (w.setCell ⟨B, 6, none⟩ (.bool true)).heap.size = w.heap.size := by simp [World.setCell]
  rw [hsz] at h3
  have h4 := h3.set 2 (.slice (some ⟨w.heap.size, 0, none⟩) n n) { s with ne := true, vt := .slice (some ⟨w.heap.size, 0, none⟩) n n } (fun _ _ _ _ => rfl)
  have H4 := Lib.hid h4
  have HM := Lib.hid (made_us n)
  have HL := Lib.hid hL
  have hq : (0 : Int) < (n : Int) := by omega
  clear h hs hvt h2 h3 h4 ff hL
  go_enter Tryz.func74, Tryz.ntmps74
  go_wp2_with (first
    | (go_at_call 94; (with_reducible refine K1.out.mono ?_); rintro e w1 ⟨rfl, rfl⟩)
    | (at_make; refine wpList_make_row _ rfl _ _ 92 rfl 50 iU (.int .u32 0) Tryz.underlying92 hiU hz0 hz1 rfl .i64 .i64 n rfl rfl (by rw [hz2]; omega) (by omega) ?_)
    | (go_at_call 95; (with_reducible refine (H4.out.offset L HL.out).mono ?_); rintro e w5 ⟨rfl, m5, rfl⟩; have h5 := H4.out.drewN m5; generalize World.drewN _ m5 = W5 at h5 ⊢; have c5 := h5.cell.2.2.1; have f5 := h5.cell.2.2.2.2.2.2 3; have H5 := Lib.hid h5; clear h5))
  go_end0
  have := H5.out.set 3 (.int .u32 (L : Int)) { s with ne := true, vt := .slice (some ⟨w.heap.size, 0, none⟩) n n, oe := L } (fun _ _ _ _ => rfl)
  rw [HM.out] at this
  exact ⟨rfl, this⟩

set_option maxRecDepth 100000 in
theorem endObject (w0 w : World) (B N0 r V VT n t P D Q S : Nat) (K : List (Nat × Obj)) (vs us' xs : List Nat) (s : St) (h : Bx w0 w B N0 r ((V, UO vs) :: (VT, UO us') :: K) xs s) (hf : Fine N0 s) (hs : s.ne = true)
    (hV : ∀ p ∈ K, p.1 ≠ V ∧ p.1 ≠ VT) (hVV : VT ≠ V) (hvt : s.vt = .slice (some ⟨V, 0, none⟩) n n) (hvts : s.vts = .slice (some ⟨VT, 0, none⟩) 0 16) (hu : us'.length = 16) (hn : vs.length = n) (hn2 : n ≤ 20) (ht0 : 0 < t) (htn : t ≤ n) (hlast : vs.getD (t - 1) 0 ≠ 0) (hz : ∀ i, t ≤ i → i < n → vs.getD i 0 = 0)
    (hvq : ∀ v ∈ vs, v ≤ xs.length) (hoe : s.oe ≤ xs.length) (hP : P = padOf 4 xs.length) (hD : D = xs.length + P + 4) (hQ : Q = xs.length + P + 4) (hS : S = Q - s.oe) (hS2 : S < 65536) (hfar : ∀ v ∈ vs, fo Q v < 65536) (hfit : Q + 60 < N0 * 2) :
    Calls Tryz.prog 80 #[.pointer (some ⟨B, 0, none⟩)] w fun e w' => e = .returned (.int .u32 (Q : Int)) ∧ Bx w0 w' B N0 0 K (le 2 ((t + 2) * 2) ++ (le 2 S ++ (vtb vs Q 0 t ++ (le 4 (2 * t + 4) ++ (List.replicate P 0 ++ xs))))) { s with ma := mx s.ma 4, vt := .slice (some ⟨V, 0, none⟩) 0 n, vts := .slice (some ⟨VT, 0, none⟩) 1 16, ne := false } := by
  have K1 := Lib.hid (h.nested hs)
  have K2 := Lib.hid (writeVtable w0 w B N0 r V VT n t P D Q S K vs us' xs s h hf hV hVV hvt hvts hu hn hn2 ht0 htn hlast hz hvq hoe hP hD hQ hS hS2 hfar hfit)
  clear h hf hs hV hVV hvt hvts hu hn hn2 ht0 htn hlast hz hvq hoe hP hD hQ hS hS2 hfar hfit
  go_enter Tryz.func80, Tryz.ntmps80
  go_wp2_with (first
    | (go_at_call 97; (with_reducible refine K1.out.mono ?_); rintro e w1 ⟨rfl, rfl⟩)
    | (go_at_call 105; (with_reducible refine K2.out.mono ?_); rintro e w2 ⟨rfl, h2⟩; have c2 := h2.cell.2.2.2.2.1; have f2 := h2.cell.2.2.2.2.2.2 6; have H2 := Lib.hid h2; clear h2))
  go_ret
  exact ⟨rfl, H2.out.set 6 (.bool false) _ (fun _ _ _ _ => rfl)⟩

set_option maxRecDepth 100000 in
/-- The place of the root. -/
theorem finish (w0 w : World) (B N0 r P D q : Nat) (K : List (Nat × Obj)) (xs : List Nat) (s : St) (h : Bx w0 w B N0 r K xs s) (hf : Fine N0 s) (hs : s.ne = false) (hma : s.ma = 4 ∨ s.ma = 8) (hP : P = padOf s.ma (xs.length + 4)) (hfit : xs.length + P + 20 < N0 * 2)
    (hP4 : padOf 4 (P + xs.length) = 0) (hq : q ≤ xs.length) (hD : D = P + xs.length - q + 4) :
    Calls Tryz.prog 79 #[.pointer (some ⟨B, 0, none⟩), .int .u32 (q : Int)] w fun e w' => e = .returned (.tuple #[]) ∧ Bx w0 w' B N0 0 K (le 4 D ++ (List.replicate P 0 ++ xs)) { s with fi := true } := by
  have K1 := Lib.hid (h.notNested hs)
  have em1 : mx s.ma s.ma = s.ma := by unfold mx; split <;> rfl
  have em2 : mx s.ma 4 = s.ma := by unfold mx; rw [if_neg (by omega)]
  have K2 := Lib.hid (prepI w0 w B N0 r 0 s.ma 4 P K xs s h hf (by omega) (by omega) hP (by omega) (by omega) s.ma 4 rfl rfl)
  have K3 := Lib.hid fun (w2 : World) (h2 : Bx w0 w2 B N0 0 K (List.replicate P 0 ++ xs) s) => prependUO w0 w2 B N0 0 0 q D K (List.replicate P 0 ++ xs) s h2 hf (by rw [List.length_append, List.length_replicate]; exact hP4.symm) (by rw [List.length_append, List.length_replicate]; omega) (by rw [List.length_append, List.length_replicate]; omega) (by rw [List.length_append, List.length_replicate]; omega)
  have E1 := Lib.hid (show ({ s with ma := mx s.ma s.ma } : St) = s by rw [em1])
  have E2 := Lib.hid (show ({ s with ma := mx s.ma 4 } : St) = s by rw [em2])
  have c1 := h.cell.1
  clear h hf hs hma hP hfit hP4 hq hD em1 em2
  go_enter Tryz.func79, Tryz.ntmps79
  go_wp2_with (first
    | (go_at_call 94; (with_reducible refine K1.out.mono ?_); rintro e w1 ⟨rfl, rfl⟩)
    | (go_at_call 66; (with_reducible refine K2.out.mono ?_); rintro e w2 ⟨rfl, h2⟩; have H2 := Lib.hid (bx_st h2 E1.out); clear h2)
    | (go_at_call 100; (with_reducible refine (K3.out _ H2.out).mono ?_); rintro e w3 ⟨rfl, h3⟩; have h3' := bx_st h3 E2.out; have c7 := h3'.cell.2.2.2.2.2.1; have f7 := h3'.cell.2.2.2.2.2.2 7; have H3 := Lib.hid h3'; clear h3 h3'))
  go_end0
  exact ⟨rfl, H3.out.set 7 (.bool true) _ (fun _ _ _ _ => rfl)⟩
end Go.Proofs.YtegohkgmamnkdaaGreat.Msg
