/- The table of an object's fields, walked. Conditions: the builder grows once at most; no table was written before. -/
import Derived.Test.YtegohkgmamnkdaaGreatWr4
import Derived.Deep.DeepAppendRoom
import Derived.Deep.DeepCutAuto
import Derived.Deep.RegionLaw
import Derived.Deep.RegionHeld3
set_option linter.unusedVariables false
namespace Go.Proofs.YtegohkgmamnkdaaGreat.Msg
open Go.ChangeShapes Go.WideShapes Go.ChangeAt Go.RowKit
open Go.Proofs.YtegohkgmamnkdaaGreat.Dig Go.Proofs.YtegohkgmamnkdaaGreat.Mem Go.Proofs.YtegohkgmamnkdaaGreat.Rb

/-- Where a field lies in an object that ends Q bytes from the end. -/
def fo (Q v : Nat) : Nat := if v = 0 then 0 else Q - v
def vtb (vs : List Nat) (Q : Nat) : Nat → Nat → List Nat
  | _, 0 => []
  | i, c + 1 => le 2 (fo Q (vs.getD i 0)) ++ vtb vs Q (i + 1) c
theorem vtb_length (vs : List Nat) (Q : Nat) : ∀ i c, (vtb vs Q i c).length = 2 * c
  | _, 0 => rfl
  | i, c + 1 => by rw [vtb, List.length_append, le_length, vtb_length vs Q (i + 1) c]; omega
theorem cutV {k : IntKind} (V N C hi : Nat) (h : hi ≤ N) (h2 : N ≤ C) : ∀ w, (Instr.slice 92 (.slice (some ⟨V, 0, none⟩) N C) none (some (.int k (hi : Int))) none).run Tryz.prog w = .ok (.slice (some ⟨V, 0, none⟩) hi C) w := fun w => by
  have el : Tryz.prog.elem 92 = 50 := by kernel_rfl
  have he : Tryz.prog.underlying 92 = some (.slice (Tryz.prog.elem 92)) := by rw [el]; exact Tryz.underlying92
  have hs : (sizeOf (Tryz.prog.elem 92)).run Tryz.prog w = .ok 1 w := by rw [el]; kernel_rfl
  rw [run_slice_h w 92 (some ⟨V, 0, none⟩) N C he k (hi : Int) (by omega) (by omega), hs]
  simp [Result.andThen, sliced, Addr.add]

section
variable {w0 w : World} {B N0 r : Nat} {K : List (Nat × Obj)} {xs : List Nat} {s : St}
theorem Bx.vcell {V i : Nat} {vs : List Nat} (h : Bx w0 w B N0 r K xs s) (hk : (V, UO vs) ∈ K) (hi : i < vs.length) : w.cell? ⟨V, i, none⟩ = some (.int .u32 ((vs.getD i 0 : Nat) : Int)) := by
  have := (h.keep _ hk).1
  simp only [World.cell?, this, UO]
  simpa using us_get hi
end

theorem infoUO : (Tryz.prog.info? 50).map (fun i => (i.zero, i.size, i.bytes)) = some (some (.int .u32 0), 1, 4) := by kernel_rfl
set_option maxRecDepth 100000 in
set_option maxHeartbeats 4000000 in
theorem writeVtable (w0 w : World) (B N0 r V VT n t P D Q S : Nat) (K : List (Nat × Obj)) (vs us' xs : List Nat) (s : St) (h : Bx w0 w B N0 r ((V, UO vs) :: (VT, UO us') :: K) xs s) (hf : Fine N0 s)
    (hV : ∀ p ∈ K, p.1 ≠ V ∧ p.1 ≠ VT) (hVV : VT ≠ V) (hvt : s.vt = .slice (some ⟨V, 0, none⟩) n n) (hvts : s.vts = .slice (some ⟨VT, 0, none⟩) 0 16) (hu : us'.length = 16) (hn : vs.length = n) (hn2 : n ≤ 20) (ht0 : 0 < t) (htn : t ≤ n) (hlast : vs.getD (t - 1) 0 ≠ 0) (hz : ∀ i, t ≤ i → i < n → vs.getD i 0 = 0)
    (hvq : ∀ v ∈ vs, v ≤ xs.length) (hoe : s.oe ≤ xs.length) (hP : P = padOf 4 xs.length) (hD : D = xs.length + P + 4) (hQ : Q = xs.length + P + 4) (hS : S = Q - s.oe) (hS2 : S < 65536) (hfar : ∀ v ∈ vs, fo Q v < 65536) (hfit : Q + 60 < N0 * 2) :
    Calls Tryz.prog 105 #[.pointer (some ⟨B, 0, none⟩)] w fun e w' => e = .returned (.int .u32 (Q : Int)) ∧ Bx w0 w' B N0 0 K (le 2 ((t + 2) * 2) ++ (le 2 S ++ (vtb vs Q 0 t ++ (le 4 (2 * t + 4) ++ (List.replicate P 0 ++ xs))))) { s with ma := mx s.ma 4, vt := .slice (some ⟨V, 0, none⟩) 0 n, vts := .slice (some ⟨VT, 0, none⟩) 1 16 } := by
  have K1 := Lib.hid (prependSO w0 w B N0 r P D _ xs s h hf hP (by omega) hD)
  obtain ⟨s1, hs1⟩ : ∃ s1 : St, s1 = { s with ma := mx s.ma 4 } := ⟨_, rfl⟩
  obtain ⟨rest, hrest⟩ : ∃ rest, rest = List.replicate P 0 ++ xs := ⟨_, rfl⟩
  rw [← hs1] at K1
  rw [← hrest] at K1 ⊢
  have hxl : (le 4 D ++ rest).length = Q := by rw [List.length_append, le_length, hrest, List.length_append, List.length_replicate]; omega
  have HXL := Lib.hid hxl
  have HEV := Lib.hid (show Q % 2 = 0 by rw [hQ, hP]; unfold padOf; omega)
  have HS1 := Lib.hid hs1
  have HVT := Lib.hid (show s1.vt = .slice (some ⟨V, 0, none⟩) n n by rw [hs1]; exact hvt)
  have HVTS := Lib.hid (show s1.vts = .slice (some ⟨VT, 0, none⟩) 0 16 by rw [hs1]; exact hvts)
  have HF1 := Lib.hid (show Fine N0 s1 by
    have := hf.2.2
    refine ⟨hf.1, hf.2.1, ?_⟩
    rw [hs1]; unfold mx; simp only; split <;> omega)
  have HN := Lib.hid hn
  have HZ := Lib.hid hz
  have bQ : Q ≤ 200000 := by have := hf.1; omega
  obtain ⟨n1, hn1⟩ : ∃ n1, n1 = n - 1 := ⟨_, rfl⟩
  obtain ⟨t1, ht1⟩ : ∃ t1, t1 = t - 1 := ⟨_, rfl⟩
  have q1 : (n : Int) - 1 = (n1 : Int) := by omega
  have q2 : (t : Int) - 1 = (t1 : Int) := by omega
  have q3 : (t1 : Int) + 1 = (t : Int) := by omega
  have b1 : n1 ≤ 20 := by omega
  have b2 : t1 ≤ 20 := by omega
  rw [← ht1] at hlast
  have HN1 := Lib.hid hn1
  have HT1 := Lib.hid ht1
  have HLA := Lib.hid hlast
  have HQ := Lib.hid hQ
  have HSS := Lib.hid hS
  have HVQ := Lib.hid hvq
  have HOE := Lib.hid hoe
  have HFAR := Lib.hid hfar
  have HVK := Lib.hid hV
  have HUU := Lib.hid hu
  have HF := Lib.hid hfit
  clear h hP hD hfit hs1 hrest hxl hvt hvts hn hz hlast hf hn1 ht1 hQ hS hvq hoe hfar hV hu
  go_enter Tryz.func105, Tryz.ntmps105
  go_wp2_with (first
    | (go_at_call 131; (with_reducible refine K1.out.mono ?_); rintro e w1 ⟨rfl, h1⟩; have H1 := Lib.hid h1; clear h1)
    | (go_at_call 95; (with_reducible refine (H1.out.offset Q HXL.out.symm).mono ?_); rintro e w2 ⟨rfl, m1, rfl⟩; have H2 := Lib.hid (H1.out.drewN m1); have c2 := H2.out.cell.2.1; rw [HVT.out] at c2))
  go_loopw [5] (fun iv wr => ∃ i : Nat, t1 ≤ i ∧ i < n ∧ iv = .int .i64 (i : Int) ∧ wr = w1.drewN m1) (fun iv _ => (intOf iv).toNat)
  case atStart => exact ⟨n1, by have := HN1.out; have := HT1.out; omega, by have := HN1.out; omega, rfl, rfl⟩
  case round =>
    obtain ⟨i, hi, hin, rfl, rfl⟩ := hrel
    have gx := H2.out.vcell (List.mem_cons_self ..) (show i < vs.length by rw [HN.out]; exact hin)
    obtain ⟨x, hx⟩ : ∃ x, x = vs.getD i 0 := ⟨_, rfl⟩
    rw [← hx] at gx
    have HX := Lib.hid hx
    clear hx
    by_cases hx0 : x = 0
    · subst hx0
      have hit : t1 ≠ i := by
        rintro rfl
        exact HLA.out HX.out.symm
      obtain ⟨i2, hi2⟩ : ∃ i2, i2 = i - 1 := ⟨_, rfl⟩
      have q4 : (i : Int) - 1 = (i2 : Int) := by omega
      have HI2 := Lib.hid hi2
      clear hi2
      go_wp2_with fail
      go_roundw
      case rel => exact ⟨i2, by have := HI2.out; omega, by have := HI2.out; omega, rfl, trivial⟩
      case measure => have := HI2.out; simp [intOf]; try omega
    · have hit : i = t1 := by
        rcases Nat.lt_or_ge i t with h1 | h1
        · have := HT1.out; omega
        · exact absurd (HX.out.trans (HZ.out i h1 hin)) hx0
      subst hit
      have hxb : ((x : Int) == 0) = false := by simp; omega
      have C7 := cutV (k := .i64) V n n t (by omega) (Nat.le_refl _)
      have f2 := H2.out.cell.2.2.2.2.2.2 2
      have f4 := H2.out.cell.2.2.2.2.2.2 4
      have c4 := H2.out.cell.2.2.2.1
      rw [HVTS.out] at c4
      go_wp2_with fail
      obtain ⟨s2, hs2⟩ : ∃ s2 : St, s2 = { s1 with vt := .slice (some ⟨V, 0, none⟩) t n } := ⟨_, rfl⟩
      have HX2 := Lib.hid (H2.out.set 2 (.slice (some ⟨V, 0, none⟩) t n) s2 (fun _ _ _ _ => by rw [hs2]; rfl))
      have HS2 := Lib.hid hs2
      clear hs2
      generalize (w1.drewN m1).setCell ⟨B, 2, none⟩ (.slice (some ⟨V, 0, none⟩) t n) = W2 at *
      clear c2 c4 f2 f4 gx HX
      go_loopw [4, 6] (fun ev iv wr => ev = .int .u32 0 ∧ iv = .int .i64 (-1) ∧ wr = W2) (fun _ _ _ => 0)
      case atStart => exact ⟨rfl, rfl, rfl⟩
      case round =>
        obtain ⟨rfl, rfl, rfl⟩ := hrel
        have d2 := HX2.out.cell.2.1
        have d2' : wr.cell? ⟨B, 2, none⟩ = some (.slice (some ⟨V, 0, none⟩) t n) := by rw [d2, HS2.out]
        clear d2
        go_wp2_with fail
        have EM := Lib.hid (show ({ s2 with ma := mx s2.ma 2 } : St) = s2 by
          have : mx s2.ma 2 = s2.ma := by
            have h4 : 4 ≤ s2.ma := by rw [HS2.out, HS1.out]; exact mx4 _
            unfold mx; rw [if_neg (by omega)]
          rw [this])
        have HF2 := Lib.hid (show Fine N0 s2 by rw [HS2.out]; exact HF1.out)
        go_loopw [13] (fun iv wx => ∃ k : Nat, k ≤ t ∧ iv = .int .i64 ((k : Int) - 1) ∧ Bx w0 wx B N0 0 ((V, UO vs) :: (VT, UO us') :: K) (vtb vs Q k (t - k) ++ (le 4 D ++ rest)) s2) (fun iv _ => (intOf iv + 1).toNat)
        case atStart =>
          refine ⟨t, by omega, by rw [q2], ?_⟩
          rw [Nat.sub_self]
          exact HX2.out
        case round =>
          obtain ⟨k, hk, rfl, hb⟩ := hrel
          have HB3 := Lib.hid hb
          have e2 := hb.cell.2.1
          rw [show s2.vt = .slice (some ⟨V, 0, none⟩) t n by rw [HS2.out]] at e2
          clear hb
          by_cases hk0 : k = 0
          · subst hk0
            obtain ⟨X0, hX0⟩ : ∃ X0, X0 = vtb vs Q 0 (t - 0) ++ (le 4 D ++ rest) := ⟨_, rfl⟩
            rw [← hX0] at HB3
            have hX0l : X0.length = Q + 2 * t := by rw [hX0, List.length_append, vtb_length, HXL.out]; omega
            have c3 := HB3.out.cell.2.2.1
            rw [show s2.oe = s.oe by rw [HS2.out, HS1.out]] at c3
            have hoq : s.oe ≤ Q := by have := HOE.out; have := HQ.out; omega
            have q5 : (Q : Int) - (s.oe : Int) = (S : Int) := by have := HSS.out; omega
            obtain ⟨T2, hT2⟩ : ∃ T2, T2 = (t + 2) * 2 := ⟨_, rfl⟩
            have q6 : ((t : Int) + 2) * 2 = (T2 : Int) := by omega
            have bT2 : T2 ≤ 100 := by omega
            have K5 := Lib.hid (prependVO w0 _ B N0 0 0 0 S _ _ s2 HB3.out HF2.out (by rw [hX0l]; have := HEV.out; unfold padOf; omega) (by rw [hX0l]; have := HF.out; omega) hS2 (Or.inl rfl))
            have K6 := Lib.hid fun (w5 : World) (h5 : Bx w0 w5 B N0 0 ((V, UO vs) :: (VT, UO us') :: K) (le 2 S ++ X0) s2) => prependVO w0 w5 B N0 0 0 0 T2 _ (le 2 S ++ X0) s2 h5 HF2.out (by rw [List.length_append, le_length, hX0l]; have := HEV.out; unfold padOf; omega) (by rw [List.length_append, le_length, hX0l]; have := HF.out; omega) (by omega) (Or.inl rfl)
            have HX0 := Lib.hid hX0
            have HX0L := Lib.hid hX0l
            have HT2 := Lib.hid hT2
            have hSb : S ≤ 65535 := by omega
            clear hX0 hX0l hT2 HN1
            go_wp2_with (first
              | (go_at_call 134; (with_reducible refine K5.out.mono ?_); rintro e w5 ⟨rfl, h5⟩; have H5 := Lib.hid (bx_st h5 EM.out); have e5 := h5.cell.2.1; rw [show ({ s2 with ma := mx s2.ma 2 } : St).vt = .slice (some ⟨V, 0, none⟩) t n by rw [EM.out, HS2.out]] at e5; clear h5)
              | (go_at_call 134; (with_reducible refine (K6.out _ H5.out).mono ?_); rintro e w6 ⟨rfl, h6⟩; have H6 := Lib.hid (bx_st h6 EM.out); clear h6; obtain ⟨g, N, C, H, hx6⟩ := H6.out; have c60 : w6.cell? ⟨B, 0, none⟩ = some (.slice (some ⟨g, 0, none⟩) N C) := hx6.bd.cell 0; have HX6 := Lib.hid hx6; have hl6 := hx6.bd.len; have hn6 := hx6.nn; obtain ⟨A, hA⟩ : ∃ A, A = N - Q := ⟨_, rfl⟩; have q7 : (N : Int) - (Q : Int) = (A : Int) := (by simp only [List.replicate_zero, List.nil_append, List.length_append, le_length, HX0L.out] at hl6; omega); have bN : N ≤ 200000 := (by have := HF2.out.1; omega); have HA := Lib.hid hA; have HL6 := Lib.hid hl6; clear hx6 hl6 hn6 hA))
            obtain ⟨L6, hL6⟩ : ∃ L6, L6 = (le 2 T2 ++ (List.replicate 0 0 ++ (le 2 S ++ X0))).length := ⟨_, rfl⟩
            have hL6' : L6 = Q + T2 := by
              rw [hL6]; simp only [List.replicate_zero, List.nil_append, List.length_append, le_length, HX0L.out]; have := HT2.out; omega
            have q8 : (L6 : Int) - (Q : Int) = (T2 : Int) := by omega
            have bL6 : L6 ≤ 201000 := by omega
            have hl6 := HL6.out
            rw [← hL6] at hl6
            have hQ4 : 4 ≤ Q := by have := HQ.out; omega
            have C1 := cutLo (k := .i32) g N C A (by have := HA.out; omega) hl6.2.1 (by have := HA.out; omega)
            have hAN : A + 4 ≤ N := by have := HA.out; omega
            have HL6' := Lib.hid hL6
            have BB6 := Lib.hid hl6
            have HQT := Lib.hid hL6'
            clear hl6 hL6 hL6'
            refine region_quiet_tail 12 (C := fun w' => ∃ m, w' = w6.drewN m) (by kernel_rfl) (by kernel_rfl) ⟨1, rfl⟩ ?_
            simp only [List.take_succ_cons, List.take_zero, List.drop_succ_cons, List.drop_zero]
            iterate 12 go_big_quiet_step ((go_at_call 95; exact quiet_off ((H6.out.drewN _).offset L6 HL6'.out)))
            refine wpQuiet_nil ?_
            rintro _ ⟨m6, rfl⟩
            obtain ⟨Z, hz⟩ := HX6.out.bd
            obtain ⟨hdr, hhdr⟩ : ∃ hdr, hdr = le 2 T2 ++ (le 2 S ++ vtb vs Q 0 t) := ⟨_, rfl⟩
            have hhl : hdr.length = T2 := by rw [hhdr, List.length_append, List.length_append, le_length, le_length, vtb_length]; have := HT2.out; omega
            have hY : le 2 T2 ++ (List.replicate 0 0 ++ (le 2 S ++ X0)) = hdr ++ (le 4 D ++ rest) := by
              rw [hhdr, HX0.out, Nat.sub_zero]; simp only [List.replicate_zero, List.nil_append, List.append_assoc]
            rw [hY] at hz
            have hZA : (Z ++ hdr).length = A := by rw [List.length_append, hhl, hz.hZ]; have := HA.out; have := HQT.out; have := BB6.out; omega
            have hbuf := hz.buf
            rw [← List.append_assoc] at hbuf
            have KW := Lib.hid (writeSO (w6.drewN m6) g C A (N - A) (C - A) T2 ((Z ++ hdr) ++ (le 4 D ++ rest)) (hbuf.later (S := []) ((Wr.refl _ _).drewN m6) (by simp)) (by rw [List.length_append, hZA, List.length_append, le_length]; omega) (by omega) (by omega))
            have HPUT := Lib.hid (put_at (Z ++ hdr) (le 4 D) rest (le 4 T2) A hZA (by rw [le_length, le_length]))
            have HZ6 := Lib.hid hz
            have HHD := Lib.hid hhdr
            have HHL := Lib.hid hhl
            clear hz hhdr hhl hY hZA hbuf c60 d2' e2 e5 c3
            go_wp2_with (go_at_call 135; (with_reducible refine KW.out.mono ?_); rintro e w7 ⟨rfl, h7, hw7⟩; rw [HPUT.out] at h7; have H7 := Lib.hid h7; have HW7 := Lib.hid hw7; clear h7 hw7)
            have X7 : BxG w0 w7 B N0 0 ((V, UO vs) :: (VT, UO us') :: K) (hdr ++ (le 4 T2 ++ rest)) s2 g N C H := by
              have hz := HZ6.out
              have hb := H7.out
              rw [List.append_assoc] at hb
              refine (HX6.out.drewN m6).step ⟨Z, (HW7.out.block B (Nat.lt_of_lt_of_le hz.lt (Nat.le_refl _)) (by simpa using hz.hne)).trans hz.row, hb, hz.hZ, ?_, hz.hC, hz.hne, ?_, hz.zb, hz.top, hz.cm⟩ (HW7.out.more (by simp)) (Nat.zero_le _)
              · have := hz.hN; simp only [List.length_append, le_length] at *; omega
              · intro x hx
                rcases List.mem_append.1 hx with hx | hx
                · exact hz.byte x (List.mem_append_left _ hx)
                · rcases List.mem_append.1 hx with hx | hx
                  · exact le_byte _ _ x hx
                  · exact hz.byte x (List.mem_append_right _ (List.mem_append_right _ hx))
            have HX7 : Hid (Bx w0 w7 B N0 0 ((V, UO vs) :: (VT, UO us') :: K) (hdr ++ (le 4 T2 ++ rest)) s2) := Lib.hid ⟨g, N, C, H, X7⟩
            clear X7
            have KV := HX7.out.keep (VT, UO us') (by simp)
            have L7 := Lib.hid (show L6 = (hdr ++ (le 4 T2 ++ rest)).length by
              rw [HL6'.out]
              have h1 := HXL.out
              simp only [List.replicate_zero, List.nil_append, List.length_append, le_length, HX0L.out, HHL.out] at h1 ⊢
              have := HT2.out; omega)
            have c4 := HX7.out.cell.2.2.2.1
            rw [show s2.vts = .slice (some ⟨VT, 0, none⟩) 0 16 by rw [HS2.out]; exact HVTS.out] at c4
            have hBlt := lt_of_cell c4
            have c4A : ∀ o m, ((w7.drewN m).alloc o).cell? ⟨B, 4, none⟩ = some (.slice (some ⟨VT, 0, none⟩) 0 16) := fun o m => by
              rw [World.cell?_alloc_lt (w7.drewN m) o _ hBlt]; exact c4
            have f4 := HX7.out.cell.2.2.2.2.2.2 4
            obtain ⟨iU, hiU, hz0, hz1, hz2⟩ := info_parts infoUO
            have KO := Lib.hid fun m => (HX7.out.drewN m).offset L6 L7.out
            have SPA := Lib.hid (show ∀ m o j, j < 1 → (((w7.drewN m).alloc o).cell? ⟨VT, 0 + 0 * 1 + j, none⟩).isSome = true ∧ ((w7.drewN m).alloc o).frozen? ⟨VT, 0 + 0 * 1 + j, none⟩ = false from fun m o j hj => by
              obtain rfl : j = 0 := by omega
              have hh : ((w7.drewN m).alloc o).heap[VT]? = some (UO us') := (Below.heap_alloc (w7.drewN m) _ _ (lt_of_obj KV.1)).trans KV.1
              have h16 : 0 < us'.length := by rw [HUU.out]; omega
              refine ⟨?_, ?_⟩
              · simp only [World.cell?, hh, UO]; simp [us, h16]
              · simp only [World.frozen?, hh, UO]; simp)
            have KA := Lib.hid fun m => (show Bx w0 (((w7.drewN m).alloc (.cells #[.int .u32 (L6 : Int)] 50)).setCells VT (0 + 0 * 1) [.int .u32 (L6 : Int)]) B N0 0 ((VT, .cells ((us us').toArray.setIfInBounds 0 (.int .u32 (L6 : Int))) 50 (0, 0)) :: K) (hdr ++ (le 4 T2 ++ rest)) s2 from
              Bx.setK (((HX7.out.drewN m).push (.cells #[.int .u32 (L6 : Int)] 50)).drop (K' := (VT, UO us') :: K) (by intro p hp; rcases List.mem_cons.1 hp with rfl | hp <;> simp_all)) (fun p hp => (HVK.out p hp).2))
            clear hBlt KV
            refine wp_region_noPanic ?_
            go_region_law (first
              | (go_simp; go_at_call 95; go_loud (refine (KO.out _).mono ?_; rintro e w8 ⟨rfl, m8, rfl⟩))
              | (go_loud (refine step_append_room rfl (.tmp 186) (.tmp 189) 92 rfl 50 iU 1 Tryz.underlying92 hiU hz1 VT 0 0 16 (by simp [Act.eval]) ⟨w7.heap.size, 0, none⟩ 1 1 [.int .u32 (L6 : Int)] (by simp [Act.eval]) rfl (by exact cell_one_new _ _ _) (by simp [Value.oneCell']) (by omega) (by exact SPA.out _ _) ?_; have h9 := KA.out (1 + m8); generalize World.setCells _ _ _ _ = W9 at h9 ⊢; have c9 := h9.cell.2.2.2.1; have f9 := h9.cell.2.2.2.2.2.2 4; have H9 := Lib.hid h9; clear h9)))
            all_goals refine NoPanic.normal ?_
            all_goals
              have h10 := H9.out.set 4 (.slice (some ⟨VT, 0, none⟩) 1 16) { s2 with vts := .slice (some ⟨VT, 0, none⟩) 1 16 } (fun _ _ _ _ => rfl)
              generalize W9.setCell ⟨B, 4, none⟩ (.slice (some ⟨VT, 0, none⟩) 1 16) = W10 at h10 ⊢
              have c10 := h10.cell.2.1
              rw [show ({ s2 with vts := .slice (some ⟨VT, 0, none⟩) 1 16 } : St).vt = .slice (some ⟨V, 0, none⟩) t n by rw [HS2.out]] at c10
              have f10 := h10.cell.2.2.2.2.2.2 2
              have C10 : ∀ w, (Instr.slice 92 (.slice (some ⟨V, 0, none⟩) t n) none (some (.int .i64 0)) none).run Tryz.prog w = .ok (.slice (some ⟨V, 0, none⟩) 0 n) w := cutV (k := .i64) V t n 0 (by omega) htn
              have H10 := Lib.hid h10
              clear h10 c9 f9 c4 c4A f4
              go_wp2_with fail
              go_ret
              refine ⟨rfl, ?_⟩
              have h11 := (H10.out.set 2 (.slice (some ⟨V, 0, none⟩) 0 n) { s2 with vts := .slice (some ⟨VT, 0, none⟩) 1 16, vt := .slice (some ⟨V, 0, none⟩) 0 n } (fun _ _ _ _ => rfl)).drop (K' := K) (fun p hp => List.mem_cons_of_mem _ hp)
              have e1 : ({ s2 with vts := .slice (some ⟨VT, 0, none⟩) 1 16, vt := .slice (some ⟨V, 0, none⟩) 0 n } : St) = { s with ma := mx s.ma 4, vt := .slice (some ⟨V, 0, none⟩) 0 n, vts := .slice (some ⟨VT, 0, none⟩) 1 16 } := by rw [HS2.out, HS1.out]
              have e2 : hdr ++ (le 4 T2 ++ rest) = le 2 ((t + 2) * 2) ++ (le 2 S ++ (vtb vs Q 0 t ++ (le 4 (2 * t + 4) ++ rest))) := by
                rw [HHD.out, ← HT2.out, show 2 * t + 4 = T2 by have := HT2.out; omega]; simp only [List.append_assoc]
              rw [e1, e2] at h11
              exact h11
          · obtain ⟨k1, hk1⟩ : ∃ k1, k = k1 + 1 := ⟨k - 1, by omega⟩
            rw [show ((k : Int) - 1) = (k1 : Int) by omega]
            have hkn : k1 < vs.length := by rw [HN.out]; omega
            have gy := HB3.out.vcell (List.mem_cons_self ..) hkn
            obtain ⟨y, hy⟩ : ∃ y, y = vs.getD k1 0 := ⟨_, rfl⟩
            rw [← hy] at gy
            have hym : y ∈ vs := by rw [hy, List.getD_eq_getElem?_getD, List.getElem?_eq_getElem hkn]; exact List.getElem_mem hkn
            have hyq := HVQ.out y hym
            have hyf := HFAR.out y hym
            have HY := Lib.hid hy
            have HK1 := Lib.hid hk1
            clear hy hk1 hkn hym
            have hlen : (vtb vs Q k (t - k) ++ (le 4 D ++ rest)).length % 2 = 0 := by rw [List.length_append, vtb_length, HXL.out]; have := HEV.out; omega
            have hlen2 : (vtb vs Q k (t - k) ++ (le 4 D ++ rest)).length ≤ Q + 40 := by rw [List.length_append, vtb_length, HXL.out]; omega
            have KP := Lib.hid fun (o : Nat) (ho : o < 65536) (O : Int) (hO : O = (o : Int)) => by
              have := prependVO w0 _ B N0 0 0 0 o _ _ s2 HB3.out HF2.out (by unfold padOf; omega) (by have := HF.out; omega) ho (Or.inl rfl)
              rw [← hO] at this
              exact this
            have hk1t : k1 < t := by have := HK1.out; omega
            have ENT := Lib.hid (show vtb vs Q k1 (t - k1) = le 2 (fo Q y) ++ vtb vs Q k (t - k) by
              rw [show t - k1 = (t - k) + 1 by have := HK1.out; omega, vtb, ← HY.out, HK1.out])
            have KN := Lib.hid (show k1 ≤ t ∧ (k1 : Int) - 1 + 1 < (k : Int) by have := HK1.out; omega)
            clear hlen hlen2
            by_cases hy0 : y = 0
            · subst hy0
              go_wp2_with (go_at_call 134; (with_reducible refine (KP.out 0 (by omega) 0 rfl).mono ?_); rintro e w5 ⟨rfl, h5⟩; have H5 := Lib.hid (bx_st h5 EM.out); clear h5)
              go_roundw
              case rel =>
                refine ⟨k1, KN.out.1, by go_num, ?_⟩
                rw [ENT.out, List.append_assoc]
                exact H5.out
              case measure => have := KN.out; simp [intOf]; try omega
            · have hyb : ((y : Int) == 0) = false := by simp; omega
              obtain ⟨d, hd⟩ : ∃ d, d = Q - y := ⟨_, rfl⟩
              have q5 : (Q : Int) - (y : Int) = (d : Int) := by have := HQ.out; omega
              have hfd : fo Q y = d := by unfold fo; rw [if_neg hy0, hd]
              have hdb : d < 65536 := by rw [← hfd]; exact hyf
              have bd : y ≤ Q := by have := HQ.out; omega
              have HFD := Lib.hid hfd
              clear hfd hd hyf hyq
              go_wp2_with (go_at_call 134; (with_reducible refine (KP.out d hdb d rfl).mono ?_); rintro e w5 ⟨rfl, h5⟩; have H5 := Lib.hid (bx_st h5 EM.out); clear h5)
              go_roundw
              case rel =>
                refine ⟨k1, KN.out.1, by go_num, ?_⟩
                rw [ENT.out, List.append_assoc, HFD.out]
                exact H5.out
              case measure => have := KN.out; simp [intOf]; try omega
end Go.Proofs.YtegohkgmamnkdaaGreat.Msg
