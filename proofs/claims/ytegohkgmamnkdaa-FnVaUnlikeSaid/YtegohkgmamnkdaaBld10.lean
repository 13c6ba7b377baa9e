/- A builder of messages: a vector of bytes, walked. Condition: it grows once at most. -/
import Derived.Test.YtegohkgmamnkdaaBld9
set_option linter.unusedVariables false
namespace Go.Proofs.Ytegohkgmamnkdaa.Msg
open Go.ChangeShapes Go.WideShapes Go.ChangeAt Go.RowKit
open Go.Proofs.Ytegohkgmamnkdaa.Dig Go.Proofs.Ytegohkgmamnkdaa.Mem Go.Proofs.Ytegohkgmamnkdaa.Rb

theorem rb_wr {w w' : World} {S : List Nat} {a : Option Addr} {n c : Nat} {xs : List Nat} (h : RB w a n c xs) (hb : Wr S w w') (hg : ∀ b o, a = some ⟨b, o, none⟩ → b ∉ S) : RB w' a n c xs :=
  ⟨h.len, h.le, h.top, h.byte, fun hn => by
    obtain ⟨b, o, e, hc⟩ := h.at_ hn
    refine ⟨b, o, e, fun i hi => ?_⟩
    have h1 := hc i hi
    rw [← h1]
    have e1 := hb.block b (lt_of_cell h1) (hg b o e)
    simp only [World.cell?, e1]⟩
theorem cutLH {k k' : IntKind} (a : Option Addr) (N C lo hi n : Nat) (h : lo ≤ hi) (h2 : hi ≤ C) (hn : hi - lo = n) : ∀ w, (Instr.slice 27 (.slice a N C) (some (.int k (lo : Int))) (some (.int k' (hi : Int))) none).run Try.prog w = .ok (.slice (cutA a C lo) n (C - lo)) w := fun w => by
  subst hn
  exact cutA_run (by rw [el26]; exact Try.underlying27) (by rw [el26]; exact u8size w) a N C k k' lo hi h h2

set_option maxRecDepth 100000 in
set_option maxHeartbeats 1000000 in
theorem createBV (w0 w : World) (B N0 r n c L : Nat) (sp : Option Addr) (K : List (Nat × Obj)) (xs xs2 ys : List Nat) (s s2 : St) (h : Bx w0 w B N0 r K xs s) (hs : s.ne = false) (hs2 : s2.ne = true) (hN : N0 ≤ 100000)
    (hp : Calls Try.prog 36 #[.pointer (some ⟨B, 0, none⟩), .int .i64 4, .int .i64 (n : Int)] (w.setCell ⟨B, 6, none⟩ (.bool true)) fun e w' => e = .returned (.tuple #[]) ∧ Bx w0 w' B N0 (n + 4) K xs2 s2 ∧ RB w' sp n c ys)
    (hsp : ∀ b o, sp = some ⟨b, o, none⟩ → b ≠ B) (hL : L = xs2.length + n + 4) (hnb : n ≤ 100000) (hyb : ∀ y ∈ ys, y < 256) :
    Calls Try.prog 38 #[.pointer (some ⟨B, 0, none⟩), .slice sp n c] w fun e w' => e = .returned (.int .u32 (L : Int)) ∧ Bx w0 w' B N0 0 K (le 4 n ++ (ys ++ xs2)) { s2 with ne := false } := by
  have K1 := Lib.hid (h.notNested hs)
  have K2 := Lib.hid hp
  obtain ⟨_, _, _, _, c6, _, f6⟩ := h.cell
  have f6 := f6 6
  have HSP := Lib.hid hsp
  have HL := Lib.hid hL
  have HS2 := Lib.hid hs2
  have HY := Lib.hid hyb
  clear h hs hs2 hp hsp hL hyb
  go_enter Try.func38, Try.ntmps38
  go_wp2_with (first
    | (go_at_call 54; (with_reducible refine K1.out.mono ?_); rintro e w1 ⟨rfl, rfl⟩)
    | (go_at_call 36; (with_reducible refine K2.out.mono ?_); rintro e w1 ⟨rfl, h1, h2⟩; obtain ⟨g, N, C, H, hx⟩ := h1; have c5 : w1.cell? ⟨B, 5, none⟩ = some (.int .u32 (H : Int)) := hx.bd.cell 5; have f5 := hx.bd.free 5; have hroom := hx.room; have hlen := hx.bd.len; obtain ⟨H2, hH2⟩ : ∃ H2, H2 = H - n := ⟨_, rfl⟩; have bH : H ≤ 200000 := (by have := hx.nn; omega); have s1 : (H : Int) - (n : Int) = (H2 : Int) := (by omega); have e2 : (H2 : Int) + (n : Int) = (H : Int) := (by omega); have EH := Lib.hid hH2; clear hH2; have hnH : n ≤ H := (by omega); have HX := Lib.hid hx; have HRB := Lib.hid h2; clear hx h2))
  obtain ⟨Z, hz⟩ := HX.out.bd
  obtain ⟨r5, b5⟩ := hz.set 5 (.int .u32 (H2 : Int)) g N C H2 s2 rfl
  have w5 : Wr [B] w1 (w1.setCell ⟨B, 5, none⟩ (.int .u32 (H2 : Int))) := Wr.setCell _ _ (by simp)
  have rb5 : RB (w1.setCell ⟨B, 5, none⟩ (.int .u32 (H2 : Int))) sp n c ys := rb_wr (S := [B]) HRB.out (Wr.setCell _ _ (by simp)) (fun b o e => by simpa using HSP.out b o e)
  generalize w1.setCell ⟨B, 5, none⟩ (.int .u32 (H2 : Int)) = W5 at *
  have d5 : W5.cell? ⟨B, 5, none⟩ = some (.int .u32 (H2 : Int)) := by simp only [World.cell?, r5]; rfl
  have d0 : W5.cell? ⟨B, 0, none⟩ = some (.slice (some ⟨g, 0, none⟩) N C) := by simp only [World.cell?, r5]; rfl
  have C1 := cutLH (k := .u32) (k' := .u32) (some ⟨g, 0, none⟩) N C H2 H n (by have := EH.out; omega) (by omega) (by have := EH.out; omega)
  have R5 := Lib.hid r5
  have B5 := Lib.hid b5
  have W5' := Lib.hid w5
  have RB5 := Lib.hid rb5
  have HZ := Lib.hid hz
  have b2 : H2 ≤ 200000 := by have := EH.out; omega
  have HLEN := Lib.hid hlen
  clear r5 b5 w5 rb5 hz hlen hnH
  refine region_quiet_tail 16 (C := fun w' => ∃ m, w' = W5.drewN m) (by kernel_rfl) (by kernel_rfl) ⟨1, rfl⟩ ?_
  simp only [List.take_succ_cons, List.take_zero, List.drop_succ_cons, List.drop_zero]
  iterate 16 go_big_quiet_step (fail)
  refine wpQuiet_nil ?_
  rintro _ ⟨m, rfl⟩
  have B6 := Lib.hid (B5.out.later (S := []) ((Wr.refl _ _).drewN m) (by simp))
  have RB6 := Lib.hid (rb_wr (S := []) RB5.out ((Wr.refl _ _).drewN m) (by simp))
  refine copy_blk B6 rfl (.tmp 41) (.tmp 42) 27 27 rfl 5 Try.underlying27 size5 (cutA (some ⟨g, 0, none⟩) C H2) n (C - H2) rfl sp n c rfl RB6 n (Nat.min_self n).symm (off := H2) (fun h0 => ?_) ?_ ?_
  · have := HLEN.out; have := EH.out
    unfold cutA
    rw [if_neg (by omega)]
    simp only [Option.map_some, Addr.add]
    by_cases h0 : H2 = 0
    · simp [h0]
    · simp [h0]
  · have h1 := HZ.out.hZ
    rw [List.length_append, h1, EH.out]; omega
  · intro w6 H6 W6
    have hyl := RB6.out.len
    have h6 := H6.out
    rw [List.take_of_length_le (by omega)] at h6
    obtain ⟨hbd, hwr⟩ := placed (w := w1) (W2 := W5) (m := m) (H := H2) (ys := ys) HZ.out (by rw [hyl, EH.out]; omega) HY.out R5.out W5'.out h6 W6.out
    have X6 : Bx w0 w6 B N0 (0 + 4) K (ys ++ xs2) s2 := ⟨g, N, C, H2, HX.out.step hbd hwr (by have := EH.out; omega)⟩
    have K7 := Lib.hid (endVector w0 w6 B N0 0 n L K (ys ++ xs2) s2 X6 HS2.out (by omega) (by rw [List.length_append, hyl, HL.out]; omega) hN)
    clear h6 hbd hwr X6 hyl
    go_wp2_with (go_at_call 41; (with_reducible refine K7.out.mono ?_); rintro e w7 ⟨rfl, h7⟩; have H7 := Lib.hid h7; clear h7)
    go_ret
    exact ⟨rfl, H7.out⟩
end Go.Proofs.Ytegohkgmamnkdaa.Msg
