/- A block of SHA-512, the library's, walked. Condition: whole blocks, at most 5000 bytes. -/
import Derived.Test.YtcbpnbfkjdmfgaaDoorSha9R
import Derived.Deep.DeepCutAuto
set_option linter.unusedVariables false
namespace Go.Proofs.YtcbpnbfkjdmfgaaDoor.Sha
open Go.ChangeShapes Go.WideShapes Go.ChangeAt Go.RowKit
open Go.Proofs.YtcbpnbfkjdmfgaaDoor.Dig Go.Proofs.YtcbpnbfkjdmfgaaDoor.Mem Go.Proofs.YtcbpnbfkjdmfgaaDoor.Rb

theorem row1_set {w0 w : World} {t : TypeId} {A : Array Value} (h : Row1 w0 w t A) (j : Nat) (v : Value) : Row1 w0 (w.setCell ⟨w0.heap.size, j, none⟩ v) t (A.setIfInBounds j v) :=
  ⟨setCell_heap h.a0, h.bel.setCell (by simp) _, by have := h.lt; simpa [World.setCell] using this⟩
theorem row1_drewN {w0 w : World} {t : TypeId} {A : Array Value} (h : Row1 w0 w t A) (m : Nat) : Row1 w0 (w.drewN m) t A := h.later (bdn (Below.refl _ _) m)
theorem row_full (B : List Nat) (old : List Int) (t : Nat) (h : old.length = 80) (ht : t ≤ 80) : (ws B t ++ old.drop t).length = 80 := by
  rw [List.length_append, ws_length, List.length_drop]; omega
theorem eight_at (B : List Nat) (j : Nat) (h : j + 8 ≤ B.length) : (B.drop j).take 8 = [B.getD j 0, B.getD (j + 1) 0, B.getD (j + 2) 0, B.getD (j + 3) 0, B.getD (j + 4) 0, B.getD (j + 5) 0, B.getD (j + 6) 0, B.getD (j + 7) 0] := by
  apply List.ext_getElem
  · simp; omega
  · intro i h1 h2
    have hi : i < 8 := by simpa using h2
    rw [List.getElem_take, List.getElem_drop]
    have e : ∀ k (hk : k < 8), B.getD (j + k) 0 = B[j + k]'(by omega) := fun k hk => by
      rw [List.getD_eq_getElem?_getD, List.getElem?_eq_getElem (by omega)]; rfl
    have cases8 : i = 0 ∨ i = 1 ∨ i = 2 ∨ i = 3 ∨ i = 4 ∨ i = 5 ∨ i = 6 ∨ i = 7 := by omega
    rcases cases8 with rfl | rfl | rfl | rfl | rfl | rfl | rfl | rfl
    · exact (e 0 (by omega)).symm
    · exact (e 1 (by omega)).symm
    · exact (e 2 (by omega)).symm
    · exact (e 3 (by omega)).symm
    · exact (e 4 (by omega)).symm
    · exact (e 5 (by omega)).symm
    · exact (e 6 (by omega)).symm
    · exact (e 7 (by omega)).symm

/-- As the walk has it. -/
def or8w (x0 x1 x2 x3 x4 x5 x6 x7 : Int) : Int := or8 (IntKind.u64.wrap x0) (IntKind.u64.wrap x1) (IntKind.u64.wrap x2) (IntKind.u64.wrap x3) (IntKind.u64.wrap x4) (IntKind.u64.wrap x5) (IntKind.u64.wrap x6) (IntKind.u64.wrap x7)
theorem wrap_small (x : Nat) (h : x < 256) : IntKind.u64.wrap (x : Int) = (x : Int) := by rw [IntKind.wrap_u64]; omega

theorem cut_lo (a : Option Addr) (n c lo : Nat) (h : lo ≤ n) : ∀ w, (Instr.slice 22 (.slice a n c) (some (.int .i64 (lo : Int))) none none).run Tryd.prog w = .ok (.slice (cutA a c lo) (n - lo) (c - lo)) w := fun w => by
  have he : Tryd.prog.underlying 22 = some (.slice (Tryd.prog.elem 22)) := by rw [elem_u8]; exact Tryd.underlying22
  have hs : (sizeOf (Tryd.prog.elem 22)).run Tryd.prog w = .ok 1 w := by rw [elem_u8]; exact size_u8 w
  rw [run_slice_l w 22 a n c he .i64 (lo : Int) (by omega) (by omega), hs]
  simp [Result.andThen, sliced, cutA]
set_option maxRecDepth 1000000 in
set_option maxHeartbeats 0 in
theorem blockGeneric (w : World) (g : Nat) (s : S8) (x : List Nat) (nx len : Int) (D : Dg w g s.list x nx len) (K : KG w) (hg0 : 0 < g) (a : Option Addr) (c n M : Nat) (p : List Nat) (R : RB w a n c p) (hn : n = 128 * M) (hM : n ≤ 5000) :
    Calls Tryd.prog 35 #[.pointer (some ⟨g, 0, none⟩), .slice a n c] w fun e w' => e = .returned (.tuple #[]) ∧ Dg w' g (comps KK s p M).list x nx len ∧ Wr g w w' := by
  have DD := Lib.hid D
  have hgl := D.lt
  have T0 := Lib.hid (row1_start w 52 (IArr (zs 80)))
  have hz := zero80
  have hb0 := hb8 w (IArr (zs 80)) 52
  have RR := Lib.hid R
  have KG0 := Lib.hid K
  have HN := Lib.hid hn
  have hcn := R.le
  have hct := R.top
  unfold maxLen at hct
  have f0 := (D.later hb0 hgl).h_at (i := 0) (by omega)
  have f1 := (D.later hb0 hgl).h_at (i := 1) (by omega)
  have f2 := (D.later hb0 hgl).h_at (i := 2) (by omega)
  have f3 := (D.later hb0 hgl).h_at (i := 3) (by omega)
  have f4 := (D.later hb0 hgl).h_at (i := 4) (by omega)
  have f5 := (D.later hb0 hgl).h_at (i := 5) (by omega)
  have f6 := (D.later hb0 hgl).h_at (i := 6) (by omega)
  have f7 := (D.later hb0 hgl).h_at (i := 7) (by omega)
  simp only [S8.list, List.getD_cons_zero, List.getD_cons_succ] at f0 f1 f2 f3 f4 f5 f6 f7
  have BB := Lib.hid hb0
  clear D K R hn hb0
  go_enter Tryd.func35, Tryd.ntmps35
  go_wp2_with fail
  go_quiet (fail)
  go_wp2_with fail
  have f := f0
  clear f0 f1 f2 f3 f4 f5 f6 f7 f
  have TQ := Lib.hid (T0.out.later (bdn (Below.refl _ _) nq))
  go_loopw [1, 5, 6, 7, 8, 9, 10, 11, 12] (fun pv v0 v1 v2 v3 v4 v5 v6 v7 wr => ∃ (k : Nat) (a' : Option Addr) (c' n' : Nat) (old : List Int), k ≤ M ∧ n' = n - 128 * k ∧ pv = .slice a' n' c' ∧ RB w a' n' c' (p.drop (128 * k)) ∧ v0 = .int .u64 (comps KK s p k).a ∧ v1 = .int .u64 (comps KK s p k).b ∧ v2 = .int .u64 (comps KK s p k).c ∧ v3 = .int .u64 (comps KK s p k).d ∧ v4 = .int .u64 (comps KK s p k).e ∧ v5 = .int .u64 (comps KK s p k).f ∧ v6 = .int .u64 (comps KK s p k).g ∧ v7 = .int .u64 (comps KK s p k).h ∧ old.length = 80 ∧ Row1 w wr 52 (IArr old)) (fun pv _ _ _ _ _ _ _ _ _ => lenOf pv)
  case atStart => exact ⟨0, a, c, n, zs 80, by omega, by omega, rfl, by rw [Nat.mul_zero, List.drop_zero]; exact RR.out, rfl, rfl, rfl, rfl, rfl, rfl, rfl, rfl, by simp [zs], TQ.out⟩
  case round =>
    obtain ⟨k, a', c', n', old, hk, hn', rfl, hR, rfl, rfl, rfl, rfl, rfl, rfl, rfl, rfl, hold, hT⟩ := hrel
    have TT := Lib.hid hT
    have RK := Lib.hid hR
    have hc' := hR.le
    have hct' := hR.top
    unfold maxLen at hct'
    by_cases hlt : k < M
    · have hn128 : 128 ≤ n' := by have := HN.out; omega
      have hnn : (128 : Int) ≤ (n' : Int) := by omega
      obtain ⟨S, hS⟩ : ∃ S, S = comps KK s p k := ⟨_, rfl⟩
      rw [← hS]
      have HS := Lib.hid hS
      obtain ⟨va, vb, vc, vd, ve, vf, vg, vh⟩ := S
      have HN' := Lib.hid hn'
      have HOLD := Lib.hid hold
      obtain ⟨b, o, ea, hb⟩ := hR.at_ (by omega)
      subst ea
      have HB := Lib.hid hb
      clear hT hR hS hn' hold hb
      obtain ⟨B, hB⟩ : ∃ B, B = (p.drop (128 * k)).take 128 := ⟨_, rfl⟩
      have HBB := Lib.hid hB
      clear hB
      go_wp2_with fail
      go_loopw [13, 14, 15, 16, 17, 18, 19, 20, 80] (fun v0 v1 v2 v3 v4 v5 v6 v7 iv wi => ∃ (t : Nat), t ≤ 80 ∧ iv = .int .i64 (t : Int) ∧ v0 = .int .u64 (rounds KK B ⟨va, vb, vc, vd, ve, vf, vg, vh⟩ t).a ∧ v1 = .int .u64 (rounds KK B ⟨va, vb, vc, vd, ve, vf, vg, vh⟩ t).b ∧ v2 = .int .u64 (rounds KK B ⟨va, vb, vc, vd, ve, vf, vg, vh⟩ t).c ∧ v3 = .int .u64 (rounds KK B ⟨va, vb, vc, vd, ve, vf, vg, vh⟩ t).d ∧ v4 = .int .u64 (rounds KK B ⟨va, vb, vc, vd, ve, vf, vg, vh⟩ t).e ∧ v5 = .int .u64 (rounds KK B ⟨va, vb, vc, vd, ve, vf, vg, vh⟩ t).f ∧ v6 = .int .u64 (rounds KK B ⟨va, vb, vc, vd, ve, vf, vg, vh⟩ t).g ∧ v7 = .int .u64 (rounds KK B ⟨va, vb, vc, vd, ve, vf, vg, vh⟩ t).h ∧ Row1 w wi 52 (IArr (ws B t ++ old.drop t))) (fun _ _ _ _ _ _ _ _ iv _ => 80 - (intOf iv).toNat)
      case atStart => exact ⟨0, by omega, rfl, rfl, rfl, rfl, rfl, rfl, rfl, rfl, rfl, TT.out⟩
      case round =>
        obtain ⟨t, ht, rfl, rfl, rfl, rfl, rfl, rfl, rfl, rfl, rfl, hT⟩ := hrel
        have TW := Lib.hid hT
        by_cases hlt : t < 80
        · have hki : (t : Int) < 80 := by omega
          obtain ⟨U, hU⟩ : ∃ U, U = rounds KK B ⟨va, vb, vc, vd, ve, vf, vg, vh⟩ t := ⟨_, rfl⟩
          rw [← hU]
          have HU := Lib.hid hU
          obtain ⟨ua, ub, uc, ud, ue, uf, ug, uh⟩ := U
          clear hT hU
          go_upto_if 84 with (fail)
          go_cut [21] (fun iv wx => iv = .int .i64 (t : Int) ∧ Row1 w wx 52 (IArr (ws B (t + 1) ++ old.drop (t + 1))))
          case first =>
            as_aux_lemma =>
            by_cases h16 : t < 16
            · have hki2 : (t : Int) < 16 := by omega
              obtain ⟨j0, hj0⟩ : ∃ j, j = 8 * t := ⟨_, rfl⟩
              obtain ⟨j1, hj1⟩ : ∃ j, j = j0 + 1 := ⟨_, rfl⟩
              obtain ⟨j2, hj2⟩ : ∃ j, j = j0 + 2 := ⟨_, rfl⟩
              obtain ⟨j3, hj3⟩ : ∃ j, j = j0 + 3 := ⟨_, rfl⟩
              obtain ⟨j4, hj4⟩ : ∃ j, j = j0 + 4 := ⟨_, rfl⟩
              obtain ⟨j5, hj5⟩ : ∃ j, j = j0 + 5 := ⟨_, rfl⟩
              obtain ⟨j6, hj6⟩ : ∃ j, j = j0 + 6 := ⟨_, rfl⟩
              obtain ⟨j7, hj7⟩ : ∃ j, j = j0 + 7 := ⟨_, rfl⟩
              have at_ : ∀ i, i < 128 → wr.cell? ⟨b, o + i, none⟩ = some (.int .u8 ((B.getD i 0 : Nat) : Int)) := fun i hi => by
                rw [HBB.out]
                have hl : (p.drop (128 * k)).length = n' := RK.out.len
                have h1 := HB.out i (by omega)
                have h2 : ((p.drop (128 * k)).take 128).getD i 0 = (p.drop (128 * k)).getD i 0 := by
                  simp [List.getD_eq_getElem?_getD, List.getElem?_take_of_lt hi]
                rw [h2, ← h1]
                exact TW.out.bel.cell (p := ⟨b, o + i, none⟩) (lt_of_cell h1)
              obtain ⟨x0, hx0⟩ : ∃ x, x = B.getD j0 0 := ⟨_, rfl⟩
              obtain ⟨x1, hx1⟩ : ∃ x, x = B.getD j1 0 := ⟨_, rfl⟩
              obtain ⟨x2, hx2⟩ : ∃ x, x = B.getD j2 0 := ⟨_, rfl⟩
              obtain ⟨x3, hx3⟩ : ∃ x, x = B.getD j3 0 := ⟨_, rfl⟩
              obtain ⟨x4, hx4⟩ : ∃ x, x = B.getD j4 0 := ⟨_, rfl⟩
              obtain ⟨x5, hx5⟩ : ∃ x, x = B.getD j5 0 := ⟨_, rfl⟩
              obtain ⟨x6, hx6⟩ : ∃ x, x = B.getD j6 0 := ⟨_, rfl⟩
              obtain ⟨x7, hx7⟩ : ∃ x, x = B.getD j7 0 := ⟨_, rfl⟩
              have c0 := at_ j0 (by omega)
              have c1 := at_ j1 (by omega)
              have c2 := at_ j2 (by omega)
              have c3 := at_ j3 (by omega)
              have c4 := at_ j4 (by omega)
              have c5 := at_ j5 (by omega)
              have c6 := at_ j6 (by omega)
              have c7 := at_ j7 (by omega)
              rw [← hx0] at c0
              rw [← hx1] at c1
              rw [← hx2] at c2
              rw [← hx3] at c3
              rw [← hx4] at c4
              rw [← hx5] at c5
              rw [← hx6] at c6
              rw [← hx7] at c7
              have e0 : (t : Int) * 8 = (j0 : Int) := by omega
              have e1 : (j0 : Int) + 1 = (j1 : Int) := by omega
              have e2 : (j0 : Int) + 2 = (j2 : Int) := by omega
              have e3 : (j0 : Int) + 3 = (j3 : Int) := by omega
              have e4 : (j0 : Int) + 4 = (j4 : Int) := by omega
              have e5 : (j0 : Int) + 5 = (j5 : Int) := by omega
              have e6 : (j0 : Int) + 6 = (j6 : Int) := by omega
              have e7 : (j0 : Int) + 7 = (j7 : Int) := by omega
              have i0 : j0 < n' := by omega
              have i1 : j1 < n' := by omega
              have i2 : j2 < n' := by omega
              have i3 : j3 < n' := by omega
              have i4 : j4 < n' := by omega
              have i5 : j5 < n' := by omega
              have i6 : j6 < n' := by omega
              have i7 : j7 < n' := by omega
              have hBb : ∀ v ∈ B, v < 256 := fun v hv => by rw [HBB.out] at hv; exact RK.out.byte v (List.mem_of_mem_take hv)
              have hBl : B.length = 128 := by rw [HBB.out, List.length_take, RK.out.len]; omega
              have NX := Lib.hid (show or8w x0 x1 x2 x3 x4 x5 x6 x7 = wnext B (ws B t) t by
                unfold wnext
                rw [if_pos h16]
                unfold be8
                rw [hx0, hx1, hx2, hx3, hx4, hx5, hx6, hx7]
                unfold or8w
                rw [wrap_small _ (getD_lt hBb (by omega)), wrap_small _ (getD_lt hBb (by omega)), wrap_small _ (getD_lt hBb (by omega)), wrap_small _ (getD_lt hBb (by omega)), wrap_small _ (getD_lt hBb (by omega)), wrap_small _ (getD_lt hBb (by omega)), wrap_small _ (getD_lt hBb (by omega)), wrap_small _ (getD_lt hBb (by omega))]
                rw [or8_val _ _ _ _ _ _ _ _ (getD_lt hBb (by omega)) (getD_lt hBb (by omega)) (getD_lt hBb (by omega)) (getD_lt hBb (by omega)) (getD_lt hBb (by omega)) (getD_lt hBb (by omega)) (getD_lt hBb (by omega)) (getD_lt hBb (by omega))]
                have := eight_at B j0 (by omega)
                rw [hj1, hj2, hj3, hj4, hj5, hj6, hj7, ← hj0, this])
              have hfree := ifree TW.out.a0 t
              have hown := icell TW.out.a0 (i := t) (by rw [row_full _ _ _ HOLD.out (by omega)]; omega)
              have ST := Lib.hid (ws_set B old t HOLD.out hlt)
              clear hj0 hj1 hj2 hj3 hj4 hj5 hj6 hj7 at_ hx0 hx1 hx2 hx3 hx4 hx5 hx6 hx7 hBb hBl
              go_wp2_with fail
              refine region_quiet_tail 63 (C := fun w' => ∃ m, w' = wr.drewN m) (by kernel_rfl) (by kernel_rfl) ⟨1, rfl⟩ ?_
              simp only [List.take_succ_cons, List.take_zero, List.drop_succ_cons, List.drop_zero]
              iterate 63 go_big_quiet_step (fail)
              refine wpQuiet_nil ?_
              rintro _ ⟨m, rfl⟩
              have hrow : Row1 w ((wr.drewN m).setCell ⟨w.heap.size, t, none⟩ (.int .u64 (or8w x0 x1 x2 x3 x4 x5 x6 x7))) 52 (IArr (ws B (t + 1) ++ old.drop (t + 1))) := by
                have h1 := row1_set (row1_drewN TW.out m) t (.int .u64 (or8w x0 x1 x2 x3 x4 x5 x6 x7))
                rw [IArr_set, NX.out, ST.out] at h1
                rw [NX.out]
                exact h1
              go_wp2_with fail
              rename_i J2 hJ2 hh2
              refine Met.intro (hJ2 _ _ ?_)
              (repeat apply Exists.intro)
              exact ⟨⟨rfl, hrow⟩, rfl⟩
            · have hki2 : ¬ (t : Int) < 16 := by omega
              have at_ : ∀ i, i < t → wr.cell? ⟨w.heap.size, i, none⟩ = some (.int .u64 ((ws B t).getD i 0)) := fun i hi => by
                have := icell TW.out.a0 (i := i) (by rw [row_full _ _ _ HOLD.out (by omega)]; omega)
                rw [ws_row_at B old t i hi] at this
                exact this
              obtain ⟨i2, h2⟩ : ∃ i2, i2 = t - 2 := ⟨_, rfl⟩
              obtain ⟨i7, h7⟩ : ∃ i7, i7 = t - 7 := ⟨_, rfl⟩
              obtain ⟨i15, h15⟩ : ∃ i15, i15 = t - 15 := ⟨_, rfl⟩
              obtain ⟨i16, h16'⟩ : ∃ i16, i16 = t - 16 := ⟨_, rfl⟩
              have g2 := at_ i2 (by omega)
              have g7 := at_ i7 (by omega)
              have g15 := at_ i15 (by omega)
              have g16 := at_ i16 (by omega)
              have e2 : (t : Int) - 2 = (i2 : Int) := by omega
              have e7 : (t : Int) - 7 = (i7 : Int) := by omega
              have e15 : (t : Int) - 15 = (i15 : Int) := by omega
              have e16 : (t : Int) - 16 = (i16 : Int) := by omega
              have b2 : i2 < 80 := by omega
              have b7 : i7 < 80 := by omega
              have b15 : i15 < 80 := by omega
              have b16 : i16 < 80 := by omega
              obtain ⟨X2, hX2⟩ : ∃ X, X = (ws B t).getD i2 0 := ⟨_, rfl⟩
              obtain ⟨X7, hX7⟩ : ∃ X, X = (ws B t).getD i7 0 := ⟨_, rfl⟩
              obtain ⟨X15, hX15⟩ : ∃ X, X = (ws B t).getD i15 0 := ⟨_, rfl⟩
              obtain ⟨X16, hX16⟩ : ∃ X, X = (ws B t).getD i16 0 := ⟨_, rfl⟩
              rw [← hX2] at g2
              rw [← hX7] at g7
              rw [← hX15] at g15
              rw [← hX16] at g16
              have hfree := ifree TW.out.a0 t
              have hown := icell TW.out.a0 (i := t) (by rw [row_full _ _ _ HOLD.out (by omega)]; omega)
              have NX := Lib.hid (show wnext B (ws B t) t = plus (plus (plus (sm1 X2) X7) (sm0 X15)) X16 by unfold wnext; rw [if_neg h16, ← h2, ← h7, ← h15, ← h16', ← hX2, ← hX7, ← hX15, ← hX16])
              have ST := Lib.hid (ws_set B old t HOLD.out hlt)
              clear at_ h2 h7 h15 h16' hX2 hX7 hX15 hX16
              go_wp2_with (first
                | (go_at_call 37; (with_reducible refine (rotl19 _ _).mono ?_); rintro e w1 ⟨rfl, rfl⟩)
                | (go_at_call 37; (with_reducible refine (rotl61 _ _).mono ?_); rintro e w1 ⟨rfl, rfl⟩)
                | (go_at_call 37; (with_reducible refine (rotl1 _ _).mono ?_); rintro e w1 ⟨rfl, rfl⟩)
                | (go_at_call 37; (with_reducible refine (rotl8 _ _).mono ?_); rintro e w1 ⟨rfl, rfl⟩))
              refine region_quiet_tail 15 (C := fun w' => ∃ m, w' = w1.drewN m) (by kernel_rfl) (by kernel_rfl) ⟨1, rfl⟩ ?_
              simp only [List.take_succ_cons, List.take_zero, List.drop_succ_cons, List.drop_zero]
              iterate 15 go_big_quiet_step (fail)
              refine wpQuiet_nil ?_
              rintro _ ⟨m, rfl⟩
              have hrow : Row1 w ((w1.drewN m).setCell ⟨w.heap.size, t, none⟩ (.int .u64 (plus (plus (plus (sm1 X2) X7) (sm0 X15)) X16))) 52 (IArr (ws B (t + 1) ++ old.drop (t + 1))) := by
                have h1 := row1_set (row1_drewN TW.out m) t (.int .u64 (wnext B (ws B t) t))
                rw [IArr_set, ST.out, NX.out] at h1
                exact h1
              go_wp2_with fail
              rename_i J2 hJ2 hh2
              refine Met.intro (hJ2 _ _ ?_)
              (repeat apply Exists.intro)
              exact ⟨⟨rfl, hrow⟩, rfl⟩
          case rest =>
            obtain ⟨rfl, hC⟩ := hcut
            have TC := Lib.hid hC
            have cK := (KG0.out.below hC.bel (by omega)).2 t hlt
            have cW := icell hC.a0 (i := t) (by rw [row_full _ _ _ HOLD.out (by omega)]; omega)
            rw [ws_row_at B old (t + 1) t (by omega), ← ws_get B (t + 1) 80 t (by omega) (by omega)] at cW
            obtain ⟨kt, hkt⟩ : ∃ k, k = KK.getD t 0 := ⟨_, rfl⟩
            obtain ⟨wt, hwt⟩ : ∃ k, k = (ws B 80).getD t 0 := ⟨_, rfl⟩
            rw [← hkt] at cK
            rw [← hwt] at cW
            have HKT := Lib.hid hkt
            have HWT := Lib.hid hwt
            clear hC hkt hwt
            go_wp2_with fail
            go_cut [27] (fun o wx => ∃ y m, y = one ⟨ua, ub, uc, ud, ue, uf, ug, uh⟩ kt wt ∧ o = .int .u64 y ∧ wx = wc.drewN m)
            case first =>
              as_aux_lemma =>
              refine region_quiet_in (C := fun w' => ∃ m, w' = wc.drewN m) (by kernel_rfl) (by kernel_rfl) ⟨1, rfl⟩ ?_
              repeat go_big_quiet_step (first
                | (go_at_call 37; (with_reducible refine (rotl14 _ _).mono ?_); rintro e w' ⟨he, rfl⟩; exact ⟨he, _, rfl⟩)
                | (go_at_call 37; (with_reducible refine (rotl18 _ _).mono ?_); rintro e w' ⟨he, rfl⟩; exact ⟨he, _, rfl⟩)
                | (go_at_call 37; (with_reducible refine (rotl41 _ _).mono ?_); rintro e w' ⟨he, rfl⟩; exact ⟨he, _, rfl⟩))
              refine wpQuiet_nil ?_
              rintro _ ⟨m1, rfl⟩
              rename_i J2 K2 hJ2 hK2
              refine hK2 _ _ (hJ2 _ _ ?_)
              (repeat apply Exists.intro)
              exact ⟨⟨_, _, rfl, rfl, rfl⟩, rfl⟩
            case rest =>
              as_aux_lemma =>
              obtain ⟨y1, m1, hy1, rfl, rfl⟩ := hcut
              have HY1 := Lib.hid hy1
              clear hy1
              go_wp2_with (first
                | (go_at_call 37; (with_reducible refine (rotl28 _ _).mono ?_); rintro e w1 ⟨rfl, rfl⟩)
                | (go_at_call 37; (with_reducible refine (rotl34 _ _).mono ?_); rintro e w1 ⟨rfl, rfl⟩)
                | (go_at_call 37; (with_reducible refine (rotl39 _ _).mono ?_); rintro e w1 ⟨rfl, rfl⟩))
              go_roundw
              case rel =>
                have hst : rounds KK B ⟨va, vb, vc, vd, ve, vf, vg, vh⟩ (t + 1) = step ⟨ua, ub, uc, ud, ue, uf, ug, uh⟩ kt wt := by
                  show step _ _ _ = _
                  rw [← HU.out, ← HKT.out, ← HWT.out]
                refine ⟨t + 1, by omega, by go_num, ?_, ?_, ?_, ?_, ?_, ?_, ?_, ?_, row1_drewN TC.out m1⟩ <;> rw [hst]
                · rw [HY1.out]; rfl
                · rfl
                · rfl
                · rfl
                · rw [HY1.out]; rfl
                · rfl
                · rfl
                · rfl
              case measure => simp [intOf]; omega
        · obtain rfl : t = 80 := by omega
          have hR2 := RK.out.cut (show 128 ≤ n' by omega) (Nat.le_refl _)
          rw [show cutA (some (⟨b, o, none⟩ : Addr)) c' 128 = (if c' = 128 then some ⟨b, o, none⟩ else some ⟨b, o + 128, none⟩) by unfold cutA; split <;> simp [Addr.add]] at hR2
          have HR2 := Lib.hid hR2
          obtain ⟨F, hF⟩ : ∃ F, F = rounds KK B ⟨va, vb, vc, vd, ve, vf, vg, vh⟩ 80 := ⟨_, rfl⟩
          rw [← hF]
          have HF := Lib.hid hF
          clear hT hR2 hF hlt
          as_aux_lemma =>
          go_wp2_with fail
          go_roundw
          case rel =>
            have hst : comps KK s p (k + 1) = sum8 ⟨va, vb, vc, vd, ve, vf, vg, vh⟩ F := by
              rw [HF.out, HBB.out, HS.out]
              rfl
            refine ⟨k + 1, _, c' - 128, n' - 128, ws B 80 ++ old.drop 80, by omega, by have := HN'.out; omega, rfl, ?_, ?_, ?_, ?_, ?_, ?_, ?_, ?_, ?_, row_full _ _ _ HOLD.out (Nat.le_refl _), TW.out⟩
            · have h1 := HR2.out
              rw [List.take_of_length_le (by rw [List.length_drop, RK.out.len]; omega), List.drop_drop] at h1
              rwa [show 128 * (k + 1) = 128 * k + 128 by omega]
            all_goals (rw [hst]; rfl)
          case measure => simp [lenOf]; omega
    · obtain rfl : k = M := by omega
      have hn0 : n' = 0 := by have := HN.out; omega
      subst hn0
      obtain ⟨S, hS⟩ : ∃ S, S = comps KK s p k := ⟨_, rfl⟩
      rw [← hS]
      have HS := Lib.hid hS
      obtain ⟨va, vb, vc, vd, ve, vf, vg, vh⟩ := S
      have DT := Lib.hid (DD.out.later hT.bel hgl)
      clear hT hR hS hn' hlt hold
      go_wp2_with fail
      refine wp_mono (end35 _ g s x nx len DT.out va vb vc vd ve vf vg vh _ _ _ _ _ _ _ _ _ _ _ _ _ _ _ _ _ _ _ _ _ _ _ _ _ _ _ _ _ _ _ _ _ _ _ _ _ _ _ _ _ _ _ _ _ _ _ _ _ _ _ _ _ _ _ _ _ _ _ _ _ _ _ _ _ _ _ _ _ _ _ _ _ _ _ _ _ _ _ _ _ _ _ _ _ _ _ _ _ _ _ _ _ _ _ _ _ _ _ _ _ _ _ _ _ _ _ _ _ _ _ _ _ _ _ _ _ _ _ _ _ _ _ _ _ _ _ _ _ _ _ _ _ _ _ _ _ _ _ _ _ _ _ _ _ _ _ _ _ _ _ _ _ _ _ _ _ _ _ _ _ _ _ _ _ _ _ _ _ _ _ _ _ _ _ _ _ _ _ _ _ _ _ _ _ _ _ _ _ _ _ _ _ _ _ _ _ _ _ _ _ _ _ _ _ _ _ _ _ _ _ _ _ _ _ _ _ _ _ _ _ _ _ _ _ _ _ _ _ _ _ _ _ _ _ _ _ _ _ _ _ _ _ _ _ _ _ _ _ _ _ _ _ _ _ _ _ _ _ _ _ _ _ _ _ _ _ _ _ _ _ _ _ _ _ _ _ _ _ _ _ _ _ _ _ _ _ _ _ _ _ _ _ _ _ _ _ _ _ _ _ _ _ _ _ _) ?_
      rintro e a2 w2 ⟨rfl, hd, rfl⟩
      obtain ⟨tm, df⟩ := a2
      have hdf : df = [] := hd
      subst hdf
      go_end0
      have hE := block_end DT.out (Wr.of_below (g := g) TT.out.bel) va vb vc vd ve vf vg vh
      rw [← HS.out]
      exact ⟨rfl, hE.1, hE.2⟩
end Go.Proofs.YtcbpnbfkjdmfgaaDoor.Sha
