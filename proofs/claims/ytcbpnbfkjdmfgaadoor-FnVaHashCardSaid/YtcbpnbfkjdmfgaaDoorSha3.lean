/- The words of a block, as the specification makes them, walked. Condition: the block has 128 bytes. -/
import Derived.Test.YtcbpnbfkjdmfgaaDoorSha2
import Derived.Test.YtcbpnbfkjdmfgaaDoorQt
import Derived.BigRegion
set_option linter.unusedVariables false
namespace Go.Proofs.YtcbpnbfkjdmfgaaDoor.Sha
open Go.ChangeShapes Go.WideShapes Go.ChangeAt Go.RowKit
open Go.Proofs.YtcbpnbfkjdmfgaaDoor.Dig Go.Proofs.YtcbpnbfkjdmfgaaDoor.Mem Go.Proofs.YtcbpnbfkjdmfgaaDoor.Rb

def IArr (xs : List Int) : Array Value := (xs.map (Value.int .u64)).toArray
theorem IArr_size (xs : List Int) : (IArr xs).size = xs.length := by simp [IArr]
theorem IArr_one (xs : List Int) : (IArr xs).all (·.oneCell') = true := by simp [IArr, Value.oneCell']
theorem IArr_get {xs : List Int} {i : Nat} (h : i < xs.length) : (IArr xs)[i]? = some (.int .u64 (xs.getD i 0)) := by
  simp [IArr, List.getD_eq_getElem?_getD, List.getElem?_eq_getElem h]
theorem IArr_set (xs : List Int) (i : Nat) (v : Int) : (IArr xs).setIfInBounds i (.int .u64 v) = IArr (xs.set i v) := by
  simp [IArr, List.map_set]
theorem icell {w : World} {g : Nat} {t : TypeId} {xs : List Int} (h : w.heap[g]? = some (.cells (IArr xs) t (0, 0))) {i : Nat} (hi : i < xs.length) : w.cell? ⟨g, i, none⟩ = some (.int .u64 (xs.getD i 0)) := by
  simp only [World.cell?, h]; exact IArr_get hi
theorem ifree {w : World} {g : Nat} {t : TypeId} {A : Array Value} (h : w.heap[g]? = some (.cells A t (0, 0))) (i : Nat) : w.frozen? ⟨g, i, none⟩ = false := by
  simp [World.frozen?, h]
theorem rows2_set1 {w0 w : World} {t u : TypeId} {A B : Array Value} (h : Rows2 w0 w t u A B) (j : Nat) (v : Value) : Rows2 w0 (w.setCell ⟨w0.heap.size + 1, j, none⟩ v) t u A (B.setIfInBounds j v) := by
  refine ⟨?_, ?_, h.bel.setCell (by show w0.heap.size ≤ w0.heap.size + 1; omega) _, by have := h.lt; simpa [World.setCell] using this⟩
  · have := h.a0
    simpa [World.setCell, Array.getElem?_modify, show ¬ w0.heap.size + 1 = w0.heap.size by omega] using this
  · simp [World.setCell, Array.getElem?_modify, h.a1]
theorem rows2_drewN {w0 w : World} {t u : TypeId} {A B : Array Value} (h : Rows2 w0 w t u A B) (m : Nat) : Rows2 w0 (w.drewN m) t u A B := h.later (bdn (Below.refl _ _) m)
/-- Noughts. -/
def zs (n : Nat) : List Int := List.replicate n 0
theorem zero80 (w : World) : (zeroValue 52).run Tryd.prog w = .ok (.agg (IArr (zs 80))) w := by kernel_rfl
theorem info80 : (Tryd.prog.info? 52).map (·.size) = some 80 := by kernel_rfl
theorem size80 {xs : List Int} (h : xs.length = 80) : (Tryd.prog.info? 52).map (·.size) = some (IArr xs).size := by rw [IArr_size, h]; exact info80
/-- One byte more behind a word. -/
theorem or_next (V x : Nat) (hV : V < 72057594037927936) (hx : x < 256) : bits .or .u64 ((V : Int) * 256) (x : Int) = ((V * 256 + x : Nat) : Int) := by
  have e : (V : Int) * 256 = ((V * 256 : Nat) : Int) := by omega
  rw [e, u64_or_nat _ _ (by omega) (by omega), show V * 256 = 2 ^ 8 * V by omega, ← Nat.two_pow_add_eq_or_of_lt (by omega : x < 2 ^ 8)]

set_option maxRecDepth 100000 in
set_option maxHeartbeats 2000000 in
theorem schedule (w : World) (a : Option Addr) (c : Nat) (p : List Nat) (h : RB w a 128 c p) :
    Calls Tryd.prog 30 #[.slice a 128 c] w fun e w' => e = .returned (.agg (IArr (ws p 80))) ∧ Below w.heap.size w w' := by
  have HR := Lib.hid fun w' (hb : Below w.heap.size w w') => h.below hb (Nat.le_refl _)
  have LEN := Lib.hid h.len
  have BY := Lib.hid h.byte
  have hc := h.le
  have ht := h.top
  unfold maxLen at ht
  have T0 := Lib.hid (rows2_start w 52 52 (IArr (zs 80)) (IArr (zs 80)))
  have hz := zero80
  clear h
  go_enter Tryd.func30, Tryd.ntmps30
  go_wp2_with fail
  go_loopw [4] (fun iv wr => ∃ i : Nat, i ≤ 128 ∧ iv = .int .i64 (i : Int) ∧ Rows2 w wr 52 52 (IArr (zs 80)) (IArr (hw p i))) (fun iv _ => 128 - (intOf iv).toNat)
  case atStart => exact ⟨0, by omega, rfl, by rw [hw_zero]; exact T0.out⟩
  case round =>
    obtain ⟨i, hi, rfl, hT⟩ := hrel
    have T1 := Lib.hid hT
    by_cases hlt : i < 128
    · have hki : (i : Int) < 128 := by omega
      obtain ⟨b, o, ea, hb⟩ := (HR.out wr hT.bel).at_ (by omega)
      subst ea
      have hx := hb i (by rw [LEN.out]; exact hlt)
      obtain ⟨x, hxe⟩ : ∃ x, x = p.getD i 0 := ⟨_, rfl⟩
      obtain ⟨j, hje⟩ : ∃ j, j = i / 8 := ⟨_, rfl⟩
      obtain ⟨V, hV⟩ : ∃ V, V = val 256 ((p.drop (8 * j)).take (i % 8)) := ⟨_, rfl⟩
      have hx256 : x < 256 := by rw [hxe]; exact getD_lt BY.out (by rw [LEN.out]; exact hlt)
      have hVb : V < 72057594037927936 := by
        have h1 := val_lt (B := 256) (l := (p.drop (8 * j)).take (i % 8)) (fun d hd => BY.out d (List.mem_of_mem_drop (List.mem_of_mem_take hd)))
        rw [← hV, List.length_take, List.length_drop, LEN.out] at h1
        have h2 : 256 ^ (min (i % 8) (128 - 8 * j)) ≤ 256 ^ 7 := Nat.pow_le_pow_right (by omega) (by omega)
        omega
      have hcell := icell hT.a1 (i := j) (by rw [hw_length]; omega)
      rw [hw_at p i j (by omega), show min 8 (i - 8 * j) = i % 8 by omega, ← hV] at hcell
      rw [← hxe] at hx
      have hfree := ifree hT.a1 j
      have s1 : (i : Int) / 8 = (j : Int) := by omega
      have s2 : Int.tdiv (i : Int) 8 = (j : Int) := by rw [Int.tdiv_eq_ediv_of_nonneg (by omega)]; exact s1
      have hj80 : j < 80 := by omega
      have HOR := Lib.hid (or_next V x hVb hx256)
      have STEP := Lib.hid (hw_step p LEN.out i hlt)
      rw [← hje, ← hV, ← hxe] at STEP
      clear hT hb hxe hje hV
      go_wp2_with fail
      refine region_quiet_tail 14 (C := fun w' => ∃ m, w' = wr.drewN m) (by kernel_rfl) (by kernel_rfl) ⟨1, rfl⟩ ?_
      simp only [List.take_succ_cons, List.take_zero, List.drop_succ_cons, List.drop_zero]
      iterate 14 go_big_quiet_step (fail)
      refine wpQuiet_nil ?_
      rintro _ ⟨m, rfl⟩
      go_wp2_with fail
      go_roundw
      case rel =>
        refine ⟨i + 1, by omega, by go_num, ?_⟩
        have := rows2_set1 (rows2_drewN T1.out m) j (.int .u64 ((V * 256 + x : Nat) : Int))
        rw [IArr_set, STEP.out, ← HOR.out] at this
        exact this
      case measure => simp [intOf]; omega
    · obtain rfl : i = 128 := by omega
      rw [hw_end] at hT
      have T2 := Lib.hid (show Rows2 w wr 52 52 (IArr (zs 80)) (IArr (ws p 16 ++ (zs 80).drop 16)) from hT)
      clear hT T1
      go_wp2_with fail
      go_loopw [5] (fun iv wi => ∃ t : Nat, 16 ≤ t ∧ t ≤ 80 ∧ iv = .int .i64 (t : Int) ∧ Rows2 w wi 52 52 (IArr (zs 80)) (IArr (ws p t ++ (zs 80).drop t))) (fun iv _ => 80 - (intOf iv).toNat)
      case atStart => exact ⟨16, by omega, by omega, rfl, T2.out⟩
      case round =>
        obtain ⟨t, ht1, ht2, rfl, hT⟩ := hrel
        have T3 := Lib.hid hT
        by_cases hlt : t < 80
        · have hki : (t : Int) < 80 := by omega
          have at_ : ∀ i, i < t → wr.cell? ⟨w.heap.size + 1, i, none⟩ = some (.int .u64 ((ws p t).getD i 0)) := fun i hi => by
            have := icell hT.a1 (i := i) (by rw [List.length_append, ws_length, List.length_drop]; simp [zs]; omega)
            rw [ws_row_at p (zs 80) t i hi] at this
            exact this
          obtain ⟨i2, h2⟩ : ∃ i2, i2 = t - 2 := ⟨_, rfl⟩
          obtain ⟨i7, h7⟩ : ∃ i7, i7 = t - 7 := ⟨_, rfl⟩
          obtain ⟨i15, h15⟩ : ∃ i15, i15 = t - 15 := ⟨_, rfl⟩
          obtain ⟨i16, h16⟩ : ∃ i16, i16 = t - 16 := ⟨_, rfl⟩
          have g2 := at_ i2 (by omega)
          have g7 := at_ i7 (by omega)
          have g15 := at_ i15 (by omega)
          have g16 := at_ i16 (by omega)
          have e2 : (t : Int) - 2 = (i2 : Int) := by omega
          have e7 : (t : Int) - 7 = (i7 : Int) := by omega
          have e15 : (t : Int) - 15 = (i15 : Int) := by omega
          have e16 : (t : Int) - 16 = (i16 : Int) := by omega
          have b2 : i2 < 80 := by omega
          have b7 : i7 < 80 := by omega
          have b15 : i15 < 80 := by omega
          have b16 : i16 < 80 := by omega
          obtain ⟨X2, hX2⟩ : ∃ X, X = (ws p t).getD i2 0 := ⟨_, rfl⟩
          obtain ⟨X7, hX7⟩ : ∃ X, X = (ws p t).getD i7 0 := ⟨_, rfl⟩
          obtain ⟨X15, hX15⟩ : ∃ X, X = (ws p t).getD i15 0 := ⟨_, rfl⟩
          obtain ⟨X16, hX16⟩ : ∃ X, X = (ws p t).getD i16 0 := ⟨_, rfl⟩
          rw [← hX2] at g2
          rw [← hX7] at g7
          rw [← hX15] at g15
          rw [← hX16] at g16
          have hfree := ifree hT.a1 t
          have hold : (ws p t ++ (zs 80).drop t).length = 80 := by rw [List.length_append, ws_length, List.length_drop]; simp [zs]; omega
          have hcur := icell hT.a1 (i := t) (by rw [hold]; exact hlt)
          have NX := Lib.hid (show wnext p (ws p t) t = plus (plus (plus (sm1 X2) X7) (sm0 X15)) X16 by unfold wnext; rw [if_neg (by omega), ← h2, ← h7, ← h15, ← h16, ← hX2, ← hX7, ← hX15, ← hX16])
          have ST := Lib.hid (ws_set p (zs 80) t (by simp [zs]) hlt)
          clear hT at_ h2 h7 h15 h16 hX2 hX7 hX15 hX16 hold
          go_wp2_with fail
          go_quiet (fail)
          go_wp2_with (first
            | (go_at_call 31; (with_reducible refine (turned19 _ _).mono ?_); rintro e w1 ⟨rfl, m1, rfl⟩)
            | (go_at_call 31; (with_reducible refine (turned61 _ _).mono ?_); rintro e w1 ⟨rfl, m2, rfl⟩)
            | (go_at_call 31; (with_reducible refine (turned1 _ _).mono ?_); rintro e w1 ⟨rfl, m3, rfl⟩)
            | (go_at_call 31; (with_reducible refine (turned8 _ _).mono ?_); rintro e w1 ⟨rfl, m4, rfl⟩))
          refine region_quiet_tail 15 (C := fun w' => ∃ m, w' = wr.drewN m) (by kernel_rfl) (by kernel_rfl) ⟨nq + m1 + m2 + m3 + m4 + 1, rfl⟩ ?_
          simp only [List.take_succ_cons, List.take_zero, List.drop_succ_cons, List.drop_zero]
          iterate 15 go_big_quiet_step (fail)
          refine wpQuiet_nil ?_
          rintro _ ⟨m, rfl⟩
          go_wp2_with fail
          go_roundw
          case rel =>
            have hrow : Rows2 w ((wr.drewN m).setCell ⟨w.heap.size + 1, t, none⟩ (.int .u64 (plus (plus (plus (sm1 X2) X7) (sm0 X15)) X16))) 52 52 (IArr (zs 80)) (IArr (ws p (t + 1) ++ (zs 80).drop (t + 1))) := by
              have h1 := rows2_set1 (rows2_drewN T3.out m) t (Value.int .u64 (wnext p (ws p t) t))
              rw [IArr_set, ST.out, NX.out] at h1
              exact h1
            repeat apply Exists.intro
            exact ⟨⟨t + 1, by omega, by omega, by go_num, hrow⟩, rfl⟩
          case measure => simp [intOf]; omega
        · obtain rfl : t = 80 := by omega
          have T4 := Lib.hid (show Rows2 w wr 52 52 (IArr (zs 80)) (IArr (ws p 80)) by have := hT; rwa [List.drop_of_length_le (by simp [zs]), List.append_nil] at this)
          have S80 := Lib.hid (size80 (ws_length p 80))
          have Z0 := Lib.hid (show (IArr (zs 80)).size = (IArr (ws p 80)).size by rw [IArr_size, IArr_size, ws_length]; simp [zs])
          clear hT T3
          go_wp2_with (first
            | (with_reducible refine wpList_load_row rfl 52 (.tmp 3) rfl (w.heap.size + 1) rfl 52 (IArr (ws p 80)) (0, 0) _ T4.out.a1 Tryd.underlying52 rfl S80.out ?_)
            | (with_reducible refine store_0 T4 rfl 52 (.tmp 2) (.tmp 69) rfl (IArr (ws p 80)) rfl rfl S80.out Z0.out (IArr_one _) ?_; intro w2 T5))
          refine bodyPost_ret (results_cell_row rfl _ _ w.heap.size 52 (IArr (ws p 80)) (0, 0) _ rfl T5.out.a0 Tryd.underlying52 rfl S80.out) rfl ?_
          exact ⟨rfl, T5.out.bel⟩
end Go.Proofs.YtcbpnbfkjdmfgaaDoor.Sha
