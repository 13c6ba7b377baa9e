/- SHA-512: the specification's, walked. Condition: at most 4000 bytes. -/
import Derived.Test.YtcbpnbfkjdmfgaaDoorSha6
import Derived.BigRegion
import Derived.Deep.DeepCutAuto
set_option linter.unusedVariables false
namespace Go.Proofs.YtcbpnbfkjdmfgaaDoor.Sha
open Go.ChangeShapes Go.WideShapes Go.ChangeAt Go.RowKit
open Go.Proofs.YtcbpnbfkjdmfgaaDoor.Dig Go.Proofs.YtcbpnbfkjdmfgaaDoor.Mem Go.Proofs.YtcbpnbfkjdmfgaaDoor.Rb

theorem cutA_at {g c l : Nat} (h : c ≠ l) : cutA (some ⟨g, 0, none⟩) c l = some ⟨g, l, none⟩ := by
  unfold cutA
  rw [if_neg h]
  by_cases h0 : l = 0
  · subst h0; simp [Addr.add]
  · simp [Addr.add, h0]
theorem hb8 (w : World) (A : Array Value) (t : TypeId) : Below w.heap.size w (w.alloc (.cells A t)) := (Below.refl _ _).alloc (Nat.le_refl _) _
def z64 : Array Value := (bs (List.replicate 64 0)).toArray
theorem zero64 (w : World) : (zeroValue 37).run Tryd.prog w = .ok (.agg z64) w := by kernel_rfl

theorem built8 (x0 x1 x2 x3 x4 x5 x6 x7 : Int) : Tryd.prog.built 50 [(0, Value.int .u64 x0), (1, Value.int .u64 x1), (2, Value.int .u64 x2), (3, Value.int .u64 x3), (4, Value.int .u64 x4), (5, Value.int .u64 x5), (6, Value.int .u64 x6), (7, Value.int .u64 x7)] = some (IArr [x0, x1, x2, x3, x4, x5, x6, x7]) := by kernel_rfl
theorem build_8 {ops : Array Oper} {rest : List Oper} {o : Oper} {a : Act} {w : World} {Q : Exit → Act → World → Prop} (hg : o.guard = none) (parts : Array (Nat × Operand)) (ho : o.op = .build 50 parts) (x0 x1 x2 x3 x4 x5 x6 x7 : Int)
    (hp' : parts.toList.map (fun x => (x.1, a.eval x.2)) = [(0, Value.int .u64 x0), (1, Value.int .u64 x1), (2, Value.int .u64 x2), (3, Value.int .u64 x3), (4, Value.int .u64 x4), (5, Value.int .u64 x5), (6, Value.int .u64 x6), (7, Value.int .u64 x7)])
    (h : wpList Tryd.prog ops Q rest (a.put o.dst (.agg (IArr [x0, x1, x2, x3, x4, x5, x6, x7]))) w) : wpList Tryd.prog ops Q (o :: rest) a w :=
  have hp := (Array.toList_map (f := fun x : Nat × Operand => (x.1, a.eval x.2)) (xs := parts)).trans hp'
  wpList_build hg _ parts ho (by rw [hp, built8]; rfl) (by rw [hp, built8]; exact h)

theorem setCell_heap {w : World} {g t : Nat} {A : Array Value} {T : TypeId} {v : Value} (h : w.heap[g]? = some (.cells A T (0, 0))) : (w.setCell ⟨g, t, none⟩ v).heap[g]? = some (.cells (A.setIfInBounds t v) T (0, 0)) := by
  simp [World.setCell, Array.getElem?_modify, h]
theorem out_set (L : List Int) (t : Nat) (h : t < 64) : (bs (outb L t ++ List.replicate (64 - t) 0)).toArray.setIfInBounds t (.int .u8 (L.getD (t / 8) 0 / 2 ^ (56 - 8 * (t % 8)) % 256)) = (bs (outb L (t + 1) ++ List.replicate (64 - (t + 1)) 0)).toArray := by
  have e : L.getD (t / 8) 0 / 2 ^ (56 - 8 * (t % 8)) % 256 = (((L.getD (t / 8) 0 / 2 ^ (56 - 8 * (t % 8)) % 256).toNat : Nat) : Int) := by omega
  rw [e, outb_next, show 64 - t = (64 - (t + 1)) + 1 by omega, List.replicate_succ]
  simp only [bs, List.setIfInBounds_toArray]
  congr 1
  rw [List.map_append, List.set_append_right _ _ (by rw [List.length_map, outb_length]; omega), List.length_map, outb_length, Nat.sub_self, List.map_cons, List.set_cons_zero, List.map_append, List.map_append, List.append_assoc]
  rfl
theorem info64 : (Tryd.prog.info? 37).map (·.size) = some 64 := by kernel_rfl
theorem size64 (L : List Int) : (Tryd.prog.info? 37).map (·.size) = some (bs (outb L 64)).toArray.size := by
  rw [info64]; simp [bs, outb]
theorem bs_one (xs : List Nat) : (bs xs).toArray.all (·.oneCell') = true := by simp [bs, Value.oneCell']

set_option maxRecDepth 100000 in
set_option maxHeartbeats 4000000 in
theorem specSha (w : World) (a : Option Addr) (c n : Nat) (p : List Nat) (h : RB w a n c p) (hnc : a = none → c = 0) (hn : n ≤ 4000) :
    Calls Tryd.prog 19 #[.slice a n c] w fun e w' => e = .returned (.agg (bs (sha p)).toArray) ∧ Below w.heap.size w w' := by
  have HR := Lib.hid fun w' (hb : Below w.heap.size w w') => h.below hb (Nat.le_refl _)
  have NC := Lib.hid hnc
  have HP := Lib.hid h.len
  have B0 := Lib.hid ((Below.refl w.heap.size w).alloc (Nat.le_refl _) (.cells z64 37))
  have hz1 := zero8
  have hz2 := zero80
  have hz3 := zero64
  have ZS8 := Lib.hid (size8 (xs := S0.list) rfl)
  have ZS80 := Lib.hid (size80 (xs := KK) KK_length)
  have ZL8 := Lib.hid (show (IArr (zs 8)).size = (IArr S0.list).size by rfl)
  have ZL80 := Lib.hid (show (IArr (zs 80)).size = (IArr KK).size by rw [IArr_size, IArr_size, KK_length]; simp [zs])
  obtain ⟨q, hq⟩ : ∃ q, q = padOf p := ⟨_, rfl⟩
  have HQ := Lib.hid hq
  clear h hnc hq
  go_enter Tryd.func19, Tryd.ntmps19
  go_wp2_with (first
    | (go_at_call 27; (with_reducible refine (startNumbers _).mono ?_); rintro e w1 ⟨rfl, hb1⟩; have B1 := Lib.hid (B0.out.trans (hb1.mono B0.out.size)))
    | (go_at_call 28; (with_reducible refine (roundNumbers _).mono ?_); rintro e w2 ⟨rfl, hb2⟩; have B2 := Lib.hid (B1.out.trans (hb2.mono B1.out.size)); have T0 := Lib.hid (rows2_start w2 50 52 (IArr (zs 8)) (IArr (zs 80))))
    | (with_reducible refine store_0 T0 rfl 50 (.tmp 3) (.tmp 17) rfl (IArr S0.list) rfl rfl ZS8.out ZL8.out (IArr_one _) ?_; intro w3 T1)
    | (with_reducible refine store_1 T1 rfl 52 (.tmp 4) (.tmp 18) rfl (IArr KK) rfl rfl ZS80.out ZL80.out (IArr_one _) ?_; intro w4 T2; have B4 := Lib.hid (B2.out.trans (T2.out.bel.mono B2.out.size)))
    | (go_at_call 29; (with_reducible refine (padded _ _ _ _ _ (HR.out _ B4.out) NC.out hn).mono ?_); rintro e w5 ⟨gq, cq, cur, rfl, hgq, hcur, hrq, hb5⟩; rw [← HQ.out] at hrq; have RQ := Lib.hid hrq; have CUR := Lib.hid hcur; have T3 := Lib.hid (T2.out.later hb5); have HG := Lib.hid hgq; clear hrq hcur hgq))
  have hql : q.length % 128 = 0 := by rw [HQ.out]; exact padOf_mod p
  have hqt : q.length ≤ 5000 := by have h1 := padOf_length p; have h2 := HP.out; have h3 : zc p.length < 128 := by unfold zc; omega
                                   rw [HQ.out]; omega
  rw [← HQ.out]
  obtain ⟨M, hM⟩ : ∃ M, M = q.length / 128 := ⟨_, rfl⟩
  have hN : q.length = 128 * M := by omega
  obtain ⟨N, hNN⟩ : ∃ N, N = q.length := ⟨_, rfl⟩
  rw [← hNN] at RQ hN hqt hM ⊢
  have HM := Lib.hid hM
  have HN := Lib.hid hNN
  have hcq : N ≤ cq := RQ.out.le
  clear hM hNN hql
  have hgq : w2.heap.size + 1 < gq := Nat.lt_of_lt_of_le T2.out.lt HG.out
  have hw5 := T3.out.bel.size
  go_loopw [6] (fun iv wr => ∃ i : Nat, i ≤ M ∧ iv = .int .i64 (128 * (i : Int)) ∧ Rows2 w2 wr 50 52 (IArr (comps KK S0 q i).list) (IArr KK) ∧ wr.heap[gq]? = some (.cells cur 5 (0, 0))) (fun iv _ => 128 * M - (intOf iv).toNat)
  case atStart => exact ⟨0, by omega, by go_num, T3.out, CUR.out⟩
  case round =>
    obtain ⟨i, hi, rfl, hT, hqr⟩ := hrel
    have TR := Lib.hid hT
    have QR := Lib.hid hqr
    obtain ⟨l, hl⟩ : ∃ l, l = 128 * i := ⟨_, rfl⟩
    have el : 128 * (i : Int) = (l : Int) := by omega
    rw [el]
    have HL := Lib.hid hl
    by_cases hlt : i < M
    · have hlN : l < N := by omega
      have hlN' : (l : Int) < (N : Int) := by omega
      obtain ⟨l2, hl2⟩ : ∃ l2, l2 = l + 128 := ⟨_, rfl⟩
      have el2 : (l : Int) + 128 = (l2 : Int) := by omega
      have el3 : l2 - l = 128 := by omega
      have RC := Lib.hid ((rb_same RQ.out (hqr.trans CUR.out.symm)).cut (show l ≤ l + 128 by omega) (show l + 128 ≤ N by omega))
      rw [show l + 128 - l = 128 by omega, cutA_at (by omega)] at RC
      have hl2N : l2 ≤ cq := by omega
      have hll : l ≤ l2 := by omega
      have HL2 := Lib.hid hl2
      have HNM := Lib.hid hN
      obtain ⟨B, hB⟩ : ∃ B, B = (q.drop l).take 128 := ⟨_, rfl⟩
      rw [← hB] at RC
      have HB := Lib.hid hB
      obtain ⟨s, hs⟩ : ∃ s, s = comps KK S0 q i := ⟨_, rfl⟩
      rw [← hs] at TR
      have HS := Lib.hid hs
      have SZ := Lib.hid (size80 (ws_length B 80))
      have SY := Lib.hid (size8 (S8.len s))
      have ZW := Lib.hid (show (IArr (zs 80)).size = (IArr (ws B 80)).size by rw [IArr_size, IArr_size, ws_length]; simp [zs])
      have ZV := Lib.hid (show (IArr (zs 8)).size = (IArr s.list).size by rw [IArr_size, IArr_size, S8.len]; simp [zs])
      clear hT hqr hl hl2 el hB hs hN hi hlt
      go_wp2_with (first
        | (go_at_call 30; (with_reducible refine (schedule _ _ _ _ RC.out).mono ?_); rintro e w7 ⟨rfl, hb7⟩; have T7 := Lib.hid (TR.out.later hb7))
        | (with_reducible refine store_new (A := IArr (zs 80)) (t := 52) rfl 52 (.tmp 7) (.tmp 32) rfl (IArr (ws B 80)) rfl rfl SZ.out ZW.out (IArr_one _) ?_; have T8 := Lib.hid (T7.out.later (hb8 w7 (IArr (ws B 80)) 52)))
        | (with_reducible refine wpList_load_row rfl 50 (.tmp 3) rfl w2.heap.size rfl 50 (IArr s.list) (0, 0) _ T8.out.a0 Tryd.underlying50 rfl SY.out ?_)
        | (with_reducible refine store_new2 (A := IArr (zs 8)) (t := 50) rfl 50 (.tmp 8) (.tmp 33) rfl (IArr s.list) rfl rfl SY.out ZV.out (IArr_one _) ?_))
      have hgq7 : gq < w7.heap.size := by
        have h1 := QR.out
        rcases Nat.lt_or_ge gq wr.heap.size with h2 | h2
        · exact Nat.lt_of_lt_of_le h2 hb7.size
        · rw [Array.getElem?_eq_none h2] at h1; cases h1
      have K0 : Hid (Blks w2 ((w7.alloc (.cells (IArr (ws B 80)) 52)).alloc (.cells (IArr s.list) 50)) gq w7.heap.size cur s.list (ws B 80) s.list) := Lib.hid ⟨T8.out.later (hb8 _ _ _), by
        have e1 := (hb8 (w7.alloc (.cells (IArr (ws B 80)) 52)) (IArr s.list) 50).block gq (by simp; omega)
        have e2 := (hb8 w7 (IArr (ws B 80)) 52).block gq hgq7
        have e3 := hb7.block gq (by
          have h1 := QR.out
          rcases Nat.lt_or_ge gq wr.heap.size with h2 | h2
          · exact h2
          · rw [Array.getElem?_eq_none h2] at h1; cases h1)
        exact (e1.trans (e2.trans e3)).trans QR.out, heap_old2 _ _ _, heap_new2 _ _ _, hgq, hgq7⟩
      go_loopw [9] (fun iv wi => ∃ t : Nat, t ≤ 80 ∧ iv = .int .i64 (t : Int) ∧ Blks w2 wi gq w7.heap.size cur s.list (ws B 80) (rounds KK B s t).list) (fun iv _ => 80 - (intOf iv).toNat)
      case atStart => exact ⟨0, by omega, rfl, K0.out⟩
      case round =>
        obtain ⟨t, ht, rfl, hK⟩ := hrel
        have KT := Lib.hid hK
        by_cases hlt : t < 80
        · have hki : (t : Int) < 80 := by omega
          obtain ⟨u, hu⟩ : ∃ u, u = rounds KK B s t := ⟨_, rfl⟩
          rw [← hu] at hK KT
          obtain ⟨va, vb, vc, vd, ve, vf, vg, vh⟩ := u
          have c0 := icell hK.vd (i := 0) (by rw [S8.len]; omega)
          have c1 := icell hK.vd (i := 1) (by rw [S8.len]; omega)
          have c2 := icell hK.vd (i := 2) (by rw [S8.len]; omega)
          have c3 := icell hK.vd (i := 3) (by rw [S8.len]; omega)
          have c4 := icell hK.vd (i := 4) (by rw [S8.len]; omega)
          have c5 := icell hK.vd (i := 5) (by rw [S8.len]; omega)
          have c6 := icell hK.vd (i := 6) (by rw [S8.len]; omega)
          have c7 := icell hK.vd (i := 7) (by rw [S8.len]; omega)
          have ck := icell hK.h.a1 (i := t) (by rw [KK_length]; omega)
          have cw := icell hK.wd (i := t) (by rw [ws_length]; omega)
          simp only [S8.list, List.getD_cons_zero, List.getD_cons_succ] at c0 c1 c2 c3 c4 c5 c6 c7
          obtain ⟨kt, hkt⟩ : ∃ k, k = KK.getD t 0 := ⟨_, rfl⟩
          obtain ⟨wt, hwt⟩ : ∃ k, k = (ws B 80).getD t 0 := ⟨_, rfl⟩
          rw [← hkt] at ck
          rw [← hwt] at cw
          have HU := Lib.hid hu
          have HKT := Lib.hid hkt
          have HWT := Lib.hid hwt
          clear hK hu hkt hwt
          go_wp2_with fail
          go_quiet (fail)
          go_wp2_with fail
          go_cut [12] (fun o wx => ∃ y m, y = one ⟨va, vb, vc, vd, ve, vf, vg, vh⟩ kt wt ∧ o = .int .u64 y ∧ wx = wr.drewN m)
          case first =>
            refine region_quiet_in (C := fun w' => ∃ m, w' = wr.drewN m) (by kernel_rfl) (by kernel_rfl) ⟨nq + 1, rfl⟩ ?_
            repeat go_big_quiet_step (first
              | (go_at_call 31; (with_reducible refine (turned14 _ _).mono ?_); rintro e w' ⟨he, m, rfl⟩; exact ⟨he, _, by rw [World.drewN_drewN]⟩)
              | (go_at_call 31; (with_reducible refine (turned18 _ _).mono ?_); rintro e w' ⟨he, m, rfl⟩; exact ⟨he, _, by rw [World.drewN_drewN]⟩)
              | (go_at_call 31; (with_reducible refine (turned41 _ _).mono ?_); rintro e w' ⟨he, m, rfl⟩; exact ⟨he, _, by rw [World.drewN_drewN]⟩))
            refine wpQuiet_nil ?_
            rintro _ ⟨m1, rfl⟩
            rename_i J2 K2 hJ2 hK2
            refine hK2 _ _ (hJ2 _ _ ?_)
            (repeat apply Exists.intro)
            exact ⟨⟨_, _, rfl, rfl, rfl⟩, rfl⟩
          case rest =>
            obtain ⟨y1, m1, hy1, rfl, rfl⟩ := hcut
            have HY1 := Lib.hid hy1
            clear hy1
            go_wp2_with fail
            go_cut [13] (fun o wx => ∃ y m, y = two ⟨va, vb, vc, vd, ve, vf, vg, vh⟩ ∧ o = .int .u64 y ∧ wx = wr.drewN m)
            case first =>
              refine region_quiet_in (C := fun w' => ∃ m, w' = wr.drewN m) (by kernel_rfl) (by kernel_rfl) ⟨m1 + 1, rfl⟩ ?_
              repeat go_big_quiet_step (first
                | (go_at_call 31; (with_reducible refine (turned28 _ _).mono ?_); rintro e w' ⟨he, m, rfl⟩; exact ⟨he, _, by rw [World.drewN_drewN]⟩)
                | (go_at_call 31; (with_reducible refine (turned34 _ _).mono ?_); rintro e w' ⟨he, m, rfl⟩; exact ⟨he, _, by rw [World.drewN_drewN]⟩)
                | (go_at_call 31; (with_reducible refine (turned39 _ _).mono ?_); rintro e w' ⟨he, m, rfl⟩; exact ⟨he, _, by rw [World.drewN_drewN]⟩))
              refine wpQuiet_nil ?_
              rintro _ ⟨m2, rfl⟩
              rename_i J2 K2 hJ2 hK2
              refine hK2 _ _ (hJ2 _ _ ?_)
              (repeat apply Exists.intro)
              exact ⟨⟨_, _, rfl, rfl, rfl⟩, rfl⟩
            case rest =>
              obtain ⟨y2, m2, hy2, rfl, rfl⟩ := hcut
              have HY2 := Lib.hid hy2
              clear hy2
              have KD := Lib.hid (KT.out.drew m2)
              have SV := Lib.hid (size8 (S8.len (step ⟨va, vb, vc, vd, ve, vf, vg, vh⟩ kt wt)))
              have HV := Lib.hid (show [IntKind.u64.wrap (y1 + y2), va, vb, vc, IntKind.u64.wrap (vd + y1), ve, vf, vg] = (step ⟨va, vb, vc, vd, ve, vf, vg, vh⟩ kt wt).list by rw [HY1.out, HY2.out]; rfl)
              go_wp2_with (first
                | (refine build_8 rfl _ rfl _ _ _ _ _ _ _ _ rfl ?_)
                | ((with_reducible refine store_V KD rfl 50 (.tmp 8) (.tmp 115) rfl (step ⟨va, vb, vc, vd, ve, vf, vg, vh⟩ kt wt).list rfl _ rfl (congrArg IArr HV.out) SV.out (S8.len2 _ _) ?_); intro w9 K9))
              go_roundw
              case rel =>
                have hrow : Blks w2 w9 gq w7.heap.size cur s.list (ws B 80) (rounds KK B s (t + 1)).list := by
                  have h1 := K9.out
                  rw [HU.out, HKT.out, HWT.out] at h1
                  exact h1
                exact ⟨t + 1, by omega, by go_num, hrow⟩
              case measure => simp [intOf]; omega
        · obtain rfl : t = 80 := by omega
          clear hlt
          obtain ⟨V, hV⟩ : ∃ V, V = rounds KK B s 80 := ⟨_, rfl⟩
          rw [← hV] at KT
          have HV := Lib.hid hV
          obtain ⟨Z, hZ⟩ : ∃ Z, Z = sum8 s V := ⟨_, rfl⟩
          have HZ := Lib.hid hZ
          clear hK hV hZ
          go_wp2_with fail
          go_loopw [14] (fun iv wi => ∃ t : Nat, t ≤ 8 ∧ iv = .int .i64 (t : Int) ∧ Blks w2 wi gq w7.heap.size cur (Z.list.take t ++ s.list.drop t) (ws B 80) V.list) (fun iv _ => 8 - (intOf iv).toNat)
          case atStart => exact ⟨0, by omega, rfl, KT.out⟩
          case round =>
            obtain ⟨t, ht, rfl, hK⟩ := hrel
            have KT := Lib.hid hK
            by_cases hlt : t < 8
            · have hki : (t : Int) < 8 := by omega
              have ch := icell hK.h.a0 (i := t) (by rw [row_len _ _ _ (S8.len2 _ _) (by rw [S8.len]; omega), S8.len]; omega)
              rw [row_at _ _ _ (by rw [S8.len]; omega) (S8.len2 _ _)] at ch
              have fh := ifree hK.h.a0 t
              have cv := icell hK.vd (i := t) (by rw [S8.len]; omega)
              obtain ⟨xh, hxh⟩ : ∃ x, x = s.list.getD t 0 := ⟨_, rfl⟩
              obtain ⟨xv, hxv⟩ : ∃ x, x = V.list.getD t 0 := ⟨_, rfl⟩
              rw [← hxh] at ch
              rw [← hxv] at cv
              have SET := Lib.hid (row_set Z.list s.list t (by rw [S8.len]; omega) (S8.len2 _ _))
              have SUM := Lib.hid (show IntKind.u64.wrap (xh + xv) = Z.list.getD t 0 by rw [HZ.out, sum8_at s V t hlt, hxh, hxv]; rfl)
              clear hK hxh hxv
              go_wp2_with fail
              refine region_quiet_tail 8 (C := fun w' => ∃ m, w' = wr.drewN m) (by kernel_rfl) (by kernel_rfl) ⟨1, rfl⟩ ?_
              simp only [List.take_succ_cons, List.take_zero, List.drop_succ_cons, List.drop_zero]
              iterate 8 go_big_quiet_step (fail)
              refine wpQuiet_nil ?_
              rintro _ ⟨m, rfl⟩
              go_wp2_with fail
              go_roundw
              case rel =>
                have hrow : Blks w2 ((wr.drewN m).setCell ⟨w2.heap.size, t, none⟩ (.int .u64 (IntKind.u64.wrap (xh + xv)))) gq w7.heap.size cur (Z.list.take (t + 1) ++ s.list.drop (t + 1)) (ws B 80) V.list := by
                  have h1 := (KT.out.drew m).setH t (IntKind.u64.wrap (xh + xv))
                  rw [SUM.out, SET.out] at h1
                  rw [SUM.out]
                  exact h1
                exact ⟨t + 1, by omega, by go_num, hrow⟩
              case measure => simp [intOf]; omega
            · obtain rfl : t = 8 := by omega
              go_wp2_with fail
              go_roundw
              case rel =>
                have K8 := KT.out
                rw [List.take_of_length_le (by rw [S8.len]; omega), List.drop_of_length_le (by rw [S8.len]; omega), List.append_nil] at K8
                have hz : Z = comps KK S0 q (i + 1) := by
                  rw [HZ.out, HV.out, HB.out, HL.out, HS.out]
                  rfl
                rw [hz] at K8
                exact ⟨i + 1, by have := HL.out; have := HNM.out; omega, by have := HL.out; go_num, K8.h, K8.q⟩
              case measure => have := HL.out; have := HNM.out; simp [intOf]; omega
    · obtain rfl : i = M := by omega
      have hlN : l = N := by omega
      subst hlN
      obtain ⟨wO, hwO⟩ : ∃ x, x = wr := ⟨_, rfl⟩
      subst hwO
      clear hlt el hN
      have WB := Lib.hid hT.bel.size
      have O0 : Hid (wO.heap[w.heap.size]? = some (.cells z64 37 (0, 0))) := Lib.hid (by
        have e1 := hb1.block w.heap.size (by simp)
        have e2 := hb2.block w.heap.size (by have := hb1.size; simp at this; omega)
        have e3 := hT.bel.block w.heap.size (by have := hb1.size; have := hb2.size; simp at *; omega)
        rw [e3, e2, e1]
        exact heap_alloc_new _ _)
      obtain ⟨Hs, hHs⟩ : ∃ s, s = comps KK S0 q i := ⟨_, rfl⟩
      rw [← hHs] at TR
      have HHS := Lib.hid hHs
      have BL := Lib.hid (B2.out.trans (hT.bel.mono B2.out.size))
      clear hT hqr hl hHs
      go_wp2_with fail
      go_loopw [16] (fun iv wi => ∃ t : Nat, t ≤ 64 ∧ iv = .int .i64 (t : Int) ∧ wi.heap[w2.heap.size]? = some (.cells (IArr Hs.list) 50 (0, 0)) ∧ wi.heap[wO.heap.size]? = some (.cells (bs (outb Hs.list t ++ List.replicate (64 - t) 0)).toArray 37 (0, 0)) ∧ wi.heap[w.heap.size]? = some (.cells z64 37 (0, 0)) ∧ Below w.heap.size w wi) (fun iv _ => 64 - (intOf iv).toNat)
      case atStart =>
        have hlt2 := TR.out.lt
        have hw2 := B2.out.size
        refine ⟨0, by omega, rfl, ((hb8 wO z64 37).block _ (by omega)).trans TR.out.a0, ?_, ((hb8 wO z64 37).block _ (by omega)).trans O0.out, BL.out.alloc (by omega) _⟩
        exact heap_alloc_new _ _
      case round =>
        obtain ⟨t, ht, rfl, hA, hO, hR, hbel⟩ := hrel
        by_cases hlt : t < 64
        · have hki : (t : Int) < 64 := by omega
          obtain ⟨j, hj⟩ : ∃ j, j = t / 8 := ⟨_, rfl⟩
          have cj := icell hA (i := j) (by rw [S8.len]; omega)
          obtain ⟨x, hx⟩ : ∃ x, x = Hs.list.getD j 0 := ⟨_, rfl⟩
          rw [← hx] at cj
          have s1 : (t : Int) / 8 = (j : Int) := by omega
          have s2 : Int.tdiv (t : Int) 8 = (j : Int) := by rw [Int.tdiv_eq_ediv_of_nonneg (by omega)]; exact s1
          have hj8 : j < 8 := by omega
          have hfree := ifree hO t
          have hcell := bytes_of hO t (by rw [List.length_append, outb_length, List.length_replicate]; omega)
          rw [Nat.zero_add] at hcell
          obtain ⟨old, hold⟩ : ∃ old, old = (outb Hs.list t ++ List.replicate (64 - t) 0).getD t 0 := ⟨_, rfl⟩
          rw [← hold] at hcell
          have HX := Lib.hid hx
          have HJ := Lib.hid hj
          have HA := Lib.hid hA
          have HO := Lib.hid hO
          have HR2 := Lib.hid hR
          clear hA hO hR hold
          clear hj hx
          go_wp2_with fail
          go_roundw
          case rel =>
            have hlt2 := TR.out.lt
            have hw2 := B2.out.size
            have e := setCell_heap (t := t) (v := .int .u8 (x / 2 ^ (56 - 8 * (t % 8)) % 256)) HO.out
            have e2 := out_set Hs.list t hlt
            rw [← HJ.out, ← HX.out] at e2
            rw [e2] at e
            exact ⟨t + 1, by omega, by go_num, (setCell_other (by omega)).trans HA.out, e, (setCell_other (by omega)).trans HR2.out, hbel.setCell (by show w.heap.size ≤ wO.heap.size; omega) _⟩
          case measure => simp [intOf]; omega
        · obtain rfl : t = 64 := by omega
          have HO : Hid (wr.heap[wO.heap.size]? = some (.cells (bs (outb Hs.list 64)).toArray 37 (0, 0))) := Lib.hid (by have := hO; rwa [Nat.sub_self, List.replicate_zero, List.append_nil] at this)
          have HR2 := Lib.hid hR
          have SZ := Lib.hid (size64 Hs.list)
          have ZZ := Lib.hid (show z64.size = (bs (outb Hs.list 64)).toArray.size by simp [z64, bs, outb])
          clear hA hO hR
          go_wp2_with (first
            | (with_reducible refine wpList_load_row rfl 37 (.tmp 15) rfl wO.heap.size rfl 37 (bs (outb Hs.list 64)).toArray (0, 0) _ HO.out Tryd.underlying37 rfl SZ.out ?_)
            | (with_reducible refine wpList_store_row rfl 37 (.tmp 2) (.tmp 144) rfl w.heap.size (bs (outb Hs.list 64)).toArray rfl rfl 37 z64 HR2.out SZ.out ZZ.out (bs_one _) ?_))
          refine bodyPost_ret (results_cell_row rfl _ _ w.heap.size 37 (bs (outb Hs.list 64)).toArray (0, 0) _ rfl (setRow_heap _ _ _ _ _ _ HR2.out) Tryd.underlying37 rfl SZ.out) rfl ?_
          have es : sha p = outb Hs.list 64 := by
            unfold sha
            rw [← HQ.out, HHS.out, ← HN.out, ← HM.out]
          rw [es]
          exact ⟨rfl, below_setRow hbel (Nat.le_refl _) _⟩
end Go.Proofs.YtcbpnbfkjdmfgaaDoor.Sha