/- A builder of messages makes ready for what comes (Prep), walked. Condition: it grows once at most. -/
import Derived.Test.YtegohkgmamnkdaaGreatBld5
set_option linter.unusedVariables false
namespace Go.Proofs.YtegohkgmamnkdaaGreat.Msg
open Go.ChangeShapes Go.WideShapes Go.ChangeAt Go.RowKit
open Go.Proofs.YtegohkgmamnkdaaGreat.Dig Go.Proofs.YtegohkgmamnkdaaGreat.Mem Go.Proofs.YtegohkgmamnkdaaGreat.Rb

def mx (a b : Nat) : Nat := if a < b then b else a
set_option maxRecDepth 100000 in
set_option maxHeartbeats 2000000 in
theorem prep (w0 w : World) (B N0 r r' sz ad P : Nat) (K : List (Nat × Obj)) (xs : List Nat) (s : St) (h : Bx w0 w B N0 r K xs s) (hs : sz = 1 ∨ sz = 2 ∨ sz = 4 ∨ sz = 8) (hN : N0 ≤ 100000) (h0 : 0 < N0) (had : ad ≤ 100000) (hma : s.ma ≤ 100)
    (hP : P = padOf sz (xs.length + ad)) (hfit : xs.length + P + sz + ad < N0 * 2) (hr' : r' ≤ sz + ad + 1 ∨ r' + P ≤ r) :
    Calls Tryz.prog 66 #[.pointer (some ⟨B, 0, none⟩), .int .i64 (sz : Int), .int .i64 (ad : Int)] w fun e w' => e = .returned (.tuple #[]) ∧ Bx w0 w' B N0 r' K (List.replicate P 0 ++ xs) { s with ma := mx s.ma sz } := by
  obtain ⟨g, N, C, H, h⟩ := h
  have hl := h.bd.len
  have c1 : w.cell? ⟨B, 1, none⟩ = some (.int .i64 (s.ma : Int)) := h.bd.cell 1
  have f1 := h.bd.free 1
  have hsz8 : sz ≤ 8 := by omega
  obtain ⟨L, hL⟩ : ∃ L, L = xs.length := ⟨_, rfl⟩
  have s1 : (N : Int) - (H : Int) = (L : Int) := by omega
  obtain ⟨X, hX⟩ : ∃ X, X = L + ad := ⟨_, rfl⟩
  have s2 : (L : Int) + (ad : Int) = (X : Int) := by omega
  have hX1 : X ≤ 10000000 := by omega
  have s3 : bits .xor .i64 (-1) (X : Int) = -1 - (X : Int) := i64_not X (by omega)
  have s4 := and_pad X sz hX1 hs _ rfl
  rw [show padOf sz X = P by rw [hP, hX, hL]] at s4
  have hP8 : P < 8 := by rw [hP]; unfold padOf; rcases hs with rfl | rfl | rfl | rfl <;> omega
  have s5 : (-1 - (X : Int)) + 1 = -(X : Int) := by omega
  have s6 : Go.RowKit.wrap64 (-(X : Int)) = -(X : Int) := by unfold Go.RowKit.wrap64; omega
  have bN : N ≤ 200000 := by have := h.nn; omega
  have bH : H ≤ 200000 := by omega
  rw [← hL] at hfit
  have HX := Lib.hid hX
  have HL := Lib.hid hL
  have HP := Lib.hid hP
  have HF := Lib.hid hfit
  have HRR := Lib.hid hr'
  have HH := Lib.hid h
  clear hX hL hP hfit h hl hs hr'
  -- MAIN
  obtain ⟨t, ht⟩ : ∃ t : St, t = { s with ma := mx s.ma sz } := ⟨_, rfl⟩
  rw [← ht]
  have HS1 := Lib.hid ht
  clear ht
  by_cases hm : s.ma < sz
  · have hm1 : ¬ (sz : Int) ≤ (s.ma : Int) := by omega
    have hm2 : (s.ma : Int) < (sz : Int) := by omega
    have hb1 : BxG w0 (w.setCell ⟨B, 1, none⟩ (.int .i64 (sz : Int))) B N0 r K xs t g N C H := by
      have e : t = { s with ma := sz } := by rw [HS1.out, mx, if_pos hm]
      obtain ⟨h1, h2⟩ := HH.out.bd.set 1 (.int .i64 (sz : Int)) t (by rw [e]; rfl)
      exact HH.out.step h1 h2 HH.out.room
    have HB1 := Lib.hid hb1
    clear hb1
    go_enter Tryz.func66, Tryz.ntmps66
    go_wp2_with fail
    generalize w.setCell ⟨B, 1, none⟩ (.int .i64 (sz : Int)) = W1 at *
    have d5 : W1.cell? ⟨B, 5, none⟩ = some (.int .u32 (H : Int)) := HB1.out.bd.cell 5
    have d0 : W1.cell? ⟨B, 0, none⟩ = some (.slice (some ⟨g, 0, none⟩) N C) := HB1.out.bd.cell 0
    go_quiet ((go_at_call 67; exact quiet_left (head _ B g N C H xs t (HB1.out.bd.drewN _))))
    go_wp2_with fail
    clear d5 d0 s1 s2 s3 s4 s5 s6
    rename_i K2 hK2 hsg
    go_loopw [7] (fun ov wr => (∃ x : Int, ov = .int .i64 x ∨ ov = undef) ∧ Bx w0 wr B N0 r K xs t) (fun _ wr => match wr.cell? ⟨B, 0, none⟩ with | some (.slice _ n _) => N0 * 2 - n | _ => 0)
    case atStart => exact ⟨⟨0, Or.inr rfl⟩, g, N, C, H, HB1.out.drewN _⟩
    case round =>
      obtain ⟨_, gr, Nr, Cr, Hr, hr⟩ := hrel
      have lr := hr.bd.len
      have nr := hr.nn
      have c5 : wr.cell? ⟨B, 5, none⟩ = some (.int .u32 (Hr : Int)) := hr.bd.cell 5
      have c0 : wr.cell? ⟨B, 0, none⟩ = some (.slice (some ⟨gr, 0, none⟩) Nr Cr) := hr.bd.cell 0
      have bH2 : Hr ≤ 200000 := by omega
      have bN2 : Nr ≤ 200000 := by omega
      have HR := Lib.hid hr
      have HLR := Lib.hid lr
      have HNR := Lib.hid nr
      clear hr lr nr
      by_cases hlt : Hr ≤ P + sz + ad
      · have hlt' : (Hr : Int) ≤ (P : Int) + (sz : Int) + (ad : Int) := by omega
        have hN0 : Nr = N0 ∧ Cr = N0 := by
          rcases HNR.out with h1 | h1
          · exact h1
          · have := HF.out; have := HLR.out.1; have := HL.out; omega
        obtain ⟨rfl, rfl⟩ := hN0
        obtain ⟨Z, hz⟩ := HR.out.bd
        have K7 := Lib.hid (grow wr B gr Cr Hr Z xs t hz (by omega) (by omega))
        obtain ⟨N2, hN2⟩ : ∃ N2, N2 = Cr * 2 := ⟨_, rfl⟩
        obtain ⟨H2, hH2⟩ : ∃ H2, H2 = Hr + Cr := ⟨_, rfl⟩
        have s1 : (N2 : Int) - (Cr : Int) = (Cr : Int) := by omega
        have s2 : (Hr : Int) + (Cr : Int) = (H2 : Int) := by omega
        have b2 : H2 ≤ 400000 := by omega
        have b3 : N2 ≤ 400000 := by omega
        have HN2 := Lib.hid hN2
        have HH2 := Lib.hid hH2
        have HZ := Lib.hid hz
        clear hN2 hH2 hz
        go_wp2_with (go_at_call 92; (with_reducible refine K7.out.mono ?_); rintro e w3 ⟨rfl, h1⟩; have H1 := Lib.hid h1; clear h1)
        obtain ⟨g3, C3, hg3, hC3, hM3, hr3, hb3, hw3⟩ := H1.out
        rw [← HN2.out] at hC3 hr3
        have d5 : w3.cell? ⟨B, 5, none⟩ = some (.int .u32 (Hr : Int)) := by simp only [World.cell?, hr3]; rfl
        have d0 : w3.cell? ⟨B, 0, none⟩ = some (.slice (some ⟨g3, 0, none⟩) N2 C3) := by simp only [World.cell?, hr3]; rfl
        have g5 : ∀ m, (w3.drewN m).frozen? ⟨B, 5, none⟩ = false := fun m => by simp [World.frozen?, World.drewN, hr3]
        have e5 : ∀ m, (w3.drewN m).cell? ⟨B, 5, none⟩ = some (.int .u32 (Hr : Int)) := fun m => d5
        have HR3 := Lib.hid hr3
        have HB3 := Lib.hid hb3
        have HW3 := Lib.hid hw3
        have HG3 := Lib.hid hg3
        clear hr3 hb3 hw3 hg3
        refine region_quiet_tail 15 (C := fun w' => ∃ m, w' = w3.drewN m) (by kernel_rfl) (by kernel_rfl) ⟨1, rfl⟩ ?_
        simp only [List.take_succ_cons, List.take_zero, List.drop_succ_cons, List.drop_zero]
        iterate 15 go_big_quiet_step (fail)
        refine wpQuiet_nil ?_
        rintro _ ⟨m, rfl⟩
        go_wp2_with fail
        have hBg : B ≠ g3 := by
          have h1 := HZ.out.lt
          have h2 := HZ.out.hne
          rcases HG3.out with h3 | h3 <;> omega
        have hlZ : (Z ++ xs ++ Z).length = H2 := by
          have h1 := HZ.out.hZ
          have h2 := HLR.out.1
          rw [List.length_append, List.length_append, HH2.out, h1]; omega
        have r6 : ((w3.drewN m).setCell ⟨B, 5, none⟩ (.int .u32 (H2 : Int))).heap[B]? = some (.cells (t.cells g3 N2 C3 H2) 95 (0, 0)) := by
          have : (w3.drewN m).heap[B]? = some (.cells (t.cells g3 N2 C3 Hr) 95 (0, 0)) := HR3.out
          rw [setCell_heap this]; rfl
        have b6 : Blk ((w3.drewN m).setCell ⟨B, 5, none⟩ (.int .u32 (H2 : Int))) g3 C3 ((Z ++ xs ++ Z) ++ xs) := by
          have := (HB3.out.later (S := []) ((Wr.refl _ _).drewN m) (by simp)).other (i := 5) (v := .int .u32 (H2 : Int)) hBg
          rw [← List.append_assoc] at this
          exact this
        have w6 : Wr [B, gr] wr ((w3.drewN m).setCell ⟨B, 5, none⟩ (.int .u32 (H2 : Int))) := (HW3.out.drewN m).trans (Wr.setCell _ _ (by simp))
        have X6 : BxG w0 ((w3.drewN m).setCell ⟨B, 5, none⟩ (.int .u32 (H2 : Int))) B Cr r K xs t g3 N2 C3 H2 := by
          refine ⟨⟨Z ++ xs ++ Z, r6, b6, hlZ, ?_, hC3, hBg, HZ.out.byte, ?_, by omega, hM3⟩, Or.inr HN2.out, (by have := HR.out.room; have := HH2.out; omega), HR.out.bel.trans (w6.below (by simp; exact ⟨HR.out.hB, HR.out.hg⟩) HR.out.bel.size), HR.out.hB, ?_, fun p hp => ?_⟩
          · have := HLR.out.1; have := HN2.out; have := HH2.out; omega
          · intro x hx
            rcases List.mem_append.1 hx with hx | hx
            · rcases List.mem_append.1 hx with hx | hx
              · exact HZ.out.zb x hx
              · exact HZ.out.byte x hx
            · exact HZ.out.zb x hx
          · have := HR.out.hg; have := HR.out.bel.size
            rcases HG3.out with h3 | h3 <;> omega
          · obtain ⟨k1, k2, k3, k4⟩ := HR.out.keep p hp
            refine ⟨(w6.block p.1 (lt_of_obj k1) (by simp [k2, k3])).trans k1, k2, ?_, k4⟩
            have := lt_of_obj k1
            rcases HG3.out with h3 | h3 <;> omega
        have X6 := Lib.hid X6
        clear r6 b6 w6
        go_roundw
        case rel => exact ⟨⟨_, Or.inl rfl⟩, g3, N2, C3, H2, X6.out⟩
        case measure =>
          have m1 := X6.out.bd.cell 0
          have m2 := HR.out.bd.cell 0
          rw [m1, m2]
          simp [St.cells]
          have := HN2.out
          omega
      · have hlt' : ¬ (Hr : Int) ≤ (P : Int) + (sz : Int) + (ad : Int) := by omega
        have K8 := Lib.hid (pad wr B gr Nr Cr Hr (Hr - P) P xs t HR.out.bd (by omega) (by omega))
        go_wp2_with (go_at_call 93; (with_reducible refine K8.out.mono ?_); rintro e w3 ⟨rfl, h1, h2⟩; have H1 := Lib.hid h1; have H2 := Lib.hid h2; clear h1 h2)
        go_end0
        exact ⟨rfl, gr, Nr, Cr, Hr - P, HR.out.step H1.out H2.out (by have := HR.out.room; rcases HRR.out with h1 | h1 <;> omega)⟩
  · have hm1 : (sz : Int) ≤ (s.ma : Int) := by omega
    obtain ⟨W1, hW1⟩ : ∃ W1, W1 = w := ⟨_, rfl⟩
    have HB1 : Hid (BxG w0 W1 B N0 r K xs t g N C H) := Lib.hid (by
      have e : t = s := by rw [HS1.out, mx, if_neg hm]
      rw [hW1, e]; exact HH.out)
    go_enter Tryz.func66, Tryz.ntmps66
    go_wp2_with fail
    rw [← hW1]
    clear hW1 HH
    have d5 : W1.cell? ⟨B, 5, none⟩ = some (.int .u32 (H : Int)) := HB1.out.bd.cell 5
    have d0 : W1.cell? ⟨B, 0, none⟩ = some (.slice (some ⟨g, 0, none⟩) N C) := HB1.out.bd.cell 0
    go_quiet ((go_at_call 67; exact quiet_left (head _ B g N C H xs t (HB1.out.bd.drewN _))))
    go_wp2_with fail
    clear d5 d0 s1 s2 s3 s4 s5 s6
    rename_i K2 hK2 hsg
    go_loopw [7] (fun ov wr => (∃ x : Int, ov = .int .i64 x ∨ ov = undef) ∧ Bx w0 wr B N0 r K xs t) (fun _ wr => match wr.cell? ⟨B, 0, none⟩ with | some (.slice _ n _) => N0 * 2 - n | _ => 0)
    case atStart => exact ⟨⟨0, Or.inr rfl⟩, g, N, C, H, HB1.out.drewN _⟩
    case round =>
      obtain ⟨_, gr, Nr, Cr, Hr, hr⟩ := hrel
      have lr := hr.bd.len
      have nr := hr.nn
      have c5 : wr.cell? ⟨B, 5, none⟩ = some (.int .u32 (Hr : Int)) := hr.bd.cell 5
      have c0 : wr.cell? ⟨B, 0, none⟩ = some (.slice (some ⟨gr, 0, none⟩) Nr Cr) := hr.bd.cell 0
      have bH2 : Hr ≤ 200000 := by omega
      have bN2 : Nr ≤ 200000 := by omega
      have HR := Lib.hid hr
      have HLR := Lib.hid lr
      have HNR := Lib.hid nr
      clear hr lr nr
      by_cases hlt : Hr ≤ P + sz + ad
      · have hlt' : (Hr : Int) ≤ (P : Int) + (sz : Int) + (ad : Int) := by omega
        have hN0 : Nr = N0 ∧ Cr = N0 := by
          rcases HNR.out with h1 | h1
          · exact h1
          · have := HF.out; have := HLR.out.1; have := HL.out; omega
        obtain ⟨rfl, rfl⟩ := hN0
        obtain ⟨Z, hz⟩ := HR.out.bd
        have K7 := Lib.hid (grow wr B gr Cr Hr Z xs t hz (by omega) (by omega))
        obtain ⟨N2, hN2⟩ : ∃ N2, N2 = Cr * 2 := ⟨_, rfl⟩
        obtain ⟨H2, hH2⟩ : ∃ H2, H2 = Hr + Cr := ⟨_, rfl⟩
        have s1 : (N2 : Int) - (Cr : Int) = (Cr : Int) := by omega
        have s2 : (Hr : Int) + (Cr : Int) = (H2 : Int) := by omega
        have b2 : H2 ≤ 400000 := by omega
        have b3 : N2 ≤ 400000 := by omega
        have HN2 := Lib.hid hN2
        have HH2 := Lib.hid hH2
        have HZ := Lib.hid hz
        clear hN2 hH2 hz
        go_wp2_with (go_at_call 92; (with_reducible refine K7.out.mono ?_); rintro e w3 ⟨rfl, h1⟩; have H1 := Lib.hid h1; clear h1)
        obtain ⟨g3, C3, hg3, hC3, hM3, hr3, hb3, hw3⟩ := H1.out
        rw [← HN2.out] at hC3 hr3
        have d5 : w3.cell? ⟨B, 5, none⟩ = some (.int .u32 (Hr : Int)) := by simp only [World.cell?, hr3]; rfl
        have d0 : w3.cell? ⟨B, 0, none⟩ = some (.slice (some ⟨g3, 0, none⟩) N2 C3) := by simp only [World.cell?, hr3]; rfl
        have g5 : ∀ m, (w3.drewN m).frozen? ⟨B, 5, none⟩ = false := fun m => by simp [World.frozen?, World.drewN, hr3]
        have e5 : ∀ m, (w3.drewN m).cell? ⟨B, 5, none⟩ = some (.int .u32 (Hr : Int)) := fun m => d5
        have HR3 := Lib.hid hr3
        have HB3 := Lib.hid hb3
        have HW3 := Lib.hid hw3
        have HG3 := Lib.hid hg3
        clear hr3 hb3 hw3 hg3
        refine region_quiet_tail 15 (C := fun w' => ∃ m, w' = w3.drewN m) (by kernel_rfl) (by kernel_rfl) ⟨1, rfl⟩ ?_
        simp only [List.take_succ_cons, List.take_zero, List.drop_succ_cons, List.drop_zero]
        iterate 15 go_big_quiet_step (fail)
        refine wpQuiet_nil ?_
        rintro _ ⟨m, rfl⟩
        go_wp2_with fail
        have hBg : B ≠ g3 := by
          have h1 := HZ.out.lt
          have h2 := HZ.out.hne
          rcases HG3.out with h3 | h3 <;> omega
        have hlZ : (Z ++ xs ++ Z).length = H2 := by
          have h1 := HZ.out.hZ
          have h2 := HLR.out.1
          rw [List.length_append, List.length_append, HH2.out, h1]; omega
        have r6 : ((w3.drewN m).setCell ⟨B, 5, none⟩ (.int .u32 (H2 : Int))).heap[B]? = some (.cells (t.cells g3 N2 C3 H2) 95 (0, 0)) := by
          have : (w3.drewN m).heap[B]? = some (.cells (t.cells g3 N2 C3 Hr) 95 (0, 0)) := HR3.out
          rw [setCell_heap this]; rfl
        have b6 : Blk ((w3.drewN m).setCell ⟨B, 5, none⟩ (.int .u32 (H2 : Int))) g3 C3 ((Z ++ xs ++ Z) ++ xs) := by
          have := (HB3.out.later (S := []) ((Wr.refl _ _).drewN m) (by simp)).other (i := 5) (v := .int .u32 (H2 : Int)) hBg
          rw [← List.append_assoc] at this
          exact this
        have w6 : Wr [B, gr] wr ((w3.drewN m).setCell ⟨B, 5, none⟩ (.int .u32 (H2 : Int))) := (HW3.out.drewN m).trans (Wr.setCell _ _ (by simp))
        have X6 : BxG w0 ((w3.drewN m).setCell ⟨B, 5, none⟩ (.int .u32 (H2 : Int))) B Cr r K xs t g3 N2 C3 H2 := by
          refine ⟨⟨Z ++ xs ++ Z, r6, b6, hlZ, ?_, hC3, hBg, HZ.out.byte, ?_, by omega, hM3⟩, Or.inr HN2.out, (by have := HR.out.room; have := HH2.out; omega), HR.out.bel.trans (w6.below (by simp; exact ⟨HR.out.hB, HR.out.hg⟩) HR.out.bel.size), HR.out.hB, ?_, fun p hp => ?_⟩
          · have := HLR.out.1; have := HN2.out; have := HH2.out; omega
          · intro x hx
            rcases List.mem_append.1 hx with hx | hx
            · rcases List.mem_append.1 hx with hx | hx
              · exact HZ.out.zb x hx
              · exact HZ.out.byte x hx
            · exact HZ.out.zb x hx
          · have := HR.out.hg; have := HR.out.bel.size
            rcases HG3.out with h3 | h3 <;> omega
          · obtain ⟨k1, k2, k3, k4⟩ := HR.out.keep p hp
            refine ⟨(w6.block p.1 (lt_of_obj k1) (by simp [k2, k3])).trans k1, k2, ?_, k4⟩
            have := lt_of_obj k1
            rcases HG3.out with h3 | h3 <;> omega
        have X6 := Lib.hid X6
        clear r6 b6 w6
        go_roundw
        case rel => exact ⟨⟨_, Or.inl rfl⟩, g3, N2, C3, H2, X6.out⟩
        case measure =>
          have m1 := X6.out.bd.cell 0
          have m2 := HR.out.bd.cell 0
          rw [m1, m2]
          simp [St.cells]
          have := HN2.out
          omega
      · have hlt' : ¬ (Hr : Int) ≤ (P : Int) + (sz : Int) + (ad : Int) := by omega
        have K8 := Lib.hid (pad wr B gr Nr Cr Hr (Hr - P) P xs t HR.out.bd (by omega) (by omega))
        go_wp2_with (go_at_call 93; (with_reducible refine K8.out.mono ?_); rintro e w3 ⟨rfl, h1, h2⟩; have H1 := Lib.hid h1; have H2 := Lib.hid h2; clear h1 h2)
        go_end0
        exact ⟨rfl, gr, Nr, Cr, Hr - P, HR.out.step H1.out H2.out (by have := HR.out.room; rcases HRR.out with h1 | h1 <;> omega)⟩
end Go.Proofs.YtegohkgmamnkdaaGreat.Msg
