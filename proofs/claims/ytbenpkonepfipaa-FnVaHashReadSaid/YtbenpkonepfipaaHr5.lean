/- The specification's reading of a hash's text, walked. No condition. -/
import Derived.Test.YtbenpkonepfipaaHr4
import Derived.RegionTactic
import Derived.BigRegion
set_option linter.unusedVariables false
namespace Go.Proofs.Ytbenpkonepfipaa.Hr
open Go.ChangeShapes Go.WideShapes Go.ChangeAt Go.RowKit
open Go.Proofs.Ytbenpkonepfipaa.Dig Go.Proofs.Ytbenpkonepfipaa.Mem Go.Proofs.Ytbenpkonepfipaa.Rb Go.Proofs.Ytbenpkonepfipaa.Ord

/-- The number whose first bits are read: i digits and k bits of the next one, d. -/
def num (P i d k : Nat) : Nat := (P * 2 ^ k + d / 2 ^ (5 - k)) * 2 ^ (160 - (5 * i + k))
theorem num_zero (P i d : Nat) (hd : d < 32) : num P i d 0 = P * 2 ^ (160 - 5 * i) := by
  unfold num
  rw [Nat.div_eq_of_lt (by simpa using hd)]; simp
theorem num_five (P i d : Nat) (hi : i < 32) : num P i d 5 = (P * 32 + d) * 2 ^ (160 - 5 * (i + 1)) := by
  unfold num
  simp only [Nat.sub_self, Nat.pow_zero, Nat.div_one]
  rw [show 5 * i + 5 = 5 * (i + 1) by omega]
theorem num_succ (P i d k : Nat) (hk : k < 5) (hi : i < 32) : num P i d (k + 1) = num P i d k + d / 2 ^ (4 - k) % 2 * 2 ^ (159 - (5 * i + k)) := by
  unfold num
  rw [show 160 - (5 * i + (k + 1)) = 159 - (5 * i + k) by omega, show 160 - (5 * i + k) = (159 - (5 * i + k)) + 1 by omega, Nat.pow_succ 2 (159 - _), show 5 - (k + 1) = 4 - k by omega,
    show 5 - k = (4 - k) + 1 by omega, Nat.pow_succ 2 (4 - k), ← Nat.div_div_eq_div_mul, ← Nat.mul_assoc, Nat.mul_right_comm, ← Nat.add_mul]
  congr 1
  rw [Nat.pow_succ, ← Nat.mul_assoc, Nat.add_mul]
  omega
theorem num_low (P i d k : Nat) : num P i d k % 2 ^ (160 - (5 * i + k)) = 0 := Nat.mul_mod_left _ _

theorem low_x (P i d k t : Nat) (ht : t = 5 * i + k) (h : t < 160) : (digs 256 20 (num P i d k)).getD (t / 8) 0 % 2 ^ (8 - t % 8) = 0 := by
  rw [List.getD_eq_getElem?_getD, digs_get 256 20 _ _ (by omega), Option.getD_some]
  have e : (256 : Nat) ^ (20 - 1 - t / 8) = 2 ^ (8 * (19 - t / 8)) := by rw [show (256 : Nat) = 2 ^ 8 from rfl, ← Nat.pow_mul]
  rw [e, Nat.mod_mod_of_dvd _ (show 2 ^ (8 - t % 8) ∣ 256 from Nat.pow_dvd_pow 2 (show 8 - t % 8 ≤ 8 by omega))]
  unfold num
  rw [← ht, show 160 - t = 8 * (19 - t / 8) + (8 - t % 8) by omega, Nat.pow_add, Nat.mul_left_comm, Nat.mul_div_cancel_left _ (Nat.pow_pos (by omega))]
  exact Nat.mul_mod_left _ _
theorem and_one : ∀ m : Fin 32, bits .and .i64 ((m.val : Nat) : Int) 1 = ((m.val % 2 : Nat) : Int) := by decide +kernel
theorem bit_or (x d j q : Nat) (hx : x < 256) (hd : d < 32) (hq : q ≤ 7) (h0 : x % 2 ^ (q + 1) = 0) :
    bits .or .u8 (x : Int) (bits .and .i64 ((d : Int) / 2 ^ j) 1 % 256 * 2 ^ q % 256) = ((x + d / 2 ^ j % 2 * 2 ^ q : Nat) : Int) := by
  have e : (d : Int) / 2 ^ j = ((d / 2 ^ j : Nat) : Int) := by simp
  have hlt : d / 2 ^ j < 32 := Nat.lt_of_le_of_lt (Nat.div_le_self _ _) hd
  rw [e, and_one ⟨d / 2 ^ j, hlt⟩]
  obtain ⟨b, hb⟩ : ∃ b, b = d / 2 ^ j % 2 := ⟨_, rfl⟩
  have hb2 : b < 2 := by omega
  have hq2 : 2 ^ q ≤ 2 ^ 7 := Nat.pow_le_pow_right (by omega) hq
  have hbq : b * 2 ^ q ≤ 1 * 2 ^ q := Nat.mul_le_mul_right _ (by omega)
  have e2 : ((b : Nat) : Int) % 256 * 2 ^ q % 256 = ((b * 2 ^ q : Nat) : Int) := by
    have e3 : (2 : Int) ^ q = ((2 ^ q : Nat) : Int) := by simp
    rw [e3]
    rcases (by omega : b = 0 ∨ b = 1) with h | h
    · rw [h]; simp
    · rw [h]; omega
  simp only [← hb]
  rw [e2, u8_or_nat _ _ hx (by omega)]
  have hx2 : x = 2 ^ (q + 1) * (x / 2 ^ (q + 1)) := by have := Nat.div_add_mod x (2 ^ (q + 1)); omega
  have hbl : b * 2 ^ q < 2 ^ (q + 1) := by rw [Nat.pow_succ]; have := Nat.pow_pos (n := q) (show 0 < 2 by omega); omega
  congr 1
  conv => lhs; rw [hx2]
  rw [← Nat.two_pow_add_eq_or_of_lt hbl]
  omega
theorem put1 {w0 w : World} {t u : TypeId} {A : Array Value} {D : List Nat} (h : Rows2 w0 w t u A (Arr .u8 D)) (j v : Nat) :
    Rows2 w0 (w.setCell ⟨w0.heap.size + 1, j, none⟩ (.int .u8 (v : Int))).drew t u A (Arr .u8 (D.set j v)) := by
  obtain ⟨h1, h2, h3, h4⟩ := h
  refine ⟨show (w.setCell ⟨w0.heap.size + 1, j, none⟩ (.int .u8 (v : Int))).heap[w0.heap.size]? = _ from ?_, show (w.setCell ⟨w0.heap.size + 1, j, none⟩ (.int .u8 (v : Int))).heap[w0.heap.size + 1]? = _ from ?_, Below.drew (h3.setCell (by simp) _), show _ < (w.setCell ⟨w0.heap.size + 1, j, none⟩ (.int .u8 (v : Int))).heap.size by simpa [World.setCell] using h4⟩
  · simp [World.setCell, Array.getElem?_modify, h1]
  · simp [World.setCell, Array.getElem?_modify, h2, Arr, List.map_set]

theorem start_digs (cs : List Nat) : digs 256 20 (val 32 ((cs.map unchr).take 0) * 2 ^ (160 - 5 * 0)) = zer := by
  rw [List.take_zero, val_nil, Nat.zero_mul]; decide

set_option maxRecDepth 100000 in
set_option maxHeartbeats 1000000 in
theorem specRead (w : World) (s : ByteArray) (cs : List Nat) (h : IsTxt s cs) :
    Calls Try.prog 14 #[.string s] w fun e w' => e = .returned (.tuple #[.agg (Arr .u8 (got cs)), .bool (good cs)]) ∧ Below w.heap.size w w' := by
  obtain ⟨hl, hb, hi⟩ := h
  have HL := Lib.hid hl
  have HI := Lib.hid hi
  have T0 := Lib.hid (rows2_start w 22 22 (Arr .u8 zer) (Arr .u8 zer))
  clear hl hb hi
  by_cases h32 : s.size = 32
  · have h32' : (s.size : Int) = 32 := by omega
    go_enter Try.func14, Try.ntmps14
    go_wp2_with fail
    go_loopw [5] (fun iv wr => ∃ i : Nat, i ≤ 32 ∧ iv = .int .i64 i ∧ (∀ j, j < i → isDig (cs.getD j 0) = true) ∧
      Rows2 w wr 22 22 (Arr .u8 zer) (Arr .u8 (digs 256 20 (val 32 ((cs.map unchr).take i) * 2 ^ (160 - 5 * i))))) (fun iv _ => 32 - (intOf iv).toNat)
    case atStart => exact ⟨0, by omega, rfl, by omega, by rw [start_digs]; exact T0.out⟩
    case round =>
      obtain ⟨i, hi, rfl, hall, hT⟩ := hrel
      have HALL := Lib.hid hall
      have HT := Lib.hid hT
      clear hall hT T0
      by_cases hlt : i < 32
      · obtain ⟨c, hc⟩ : ∃ c, c = cs.getD i 0 := ⟨_, rfl⟩
        have hix := HI.out i (by omega)
        rw [← hc] at hix
        have bad : isDig c = false → got cs = zer ∧ good cs = false := fun h => by
          have hg : good cs = false := by
            cases hg : good cs with
            | false => rfl
            | true =>
              simp only [good, Bool.and_eq_true, decide_eq_true_eq, List.all_eq_true] at hg
              have := hg.2 c (by rw [hc, List.getD_eq_getElem?_getD, List.getElem?_eq_getElem (by rw [HL.out]; omega)]; exact List.getElem_mem _)
              rw [h] at this; cases this
          exact ⟨by unfold got; rw [hg]; rfl, hg⟩
        have HC := Lib.hid hc
        have BAD := Lib.hid bad
        clear bad
        clear hc
        by_cases c1 : c < 48
        · have q1 : ¬ 48 ≤ c := by omega
          have q2 : ¬ 97 ≤ c := by omega
          go_wp2_with (with_reducible refine store_0 HT rfl 22 (.tmp 2) (.tmp 50) rfl (Arr .u8 zer) rfl rfl (size22 rfl) rfl (one_cells _) ?_; intro w1 T1)
          refine bodyPost_ret (results_row_tmp rfl _ _ w.heap.size 22 (Arr .u8 zer) (0, 0) _ rfl T1.out.a0 Try.underlying22 rfl (size22 rfl)) rfl ?_
          obtain ⟨z1, z2⟩ := BAD.out (by simp [isDig]; omega)
          exact ⟨by rw [z1, z2]; rfl, T1.out.bel⟩
        have c1' : 48 ≤ c := by omega
        by_cases c2 : c ≤ 57
        · have q2 : ¬ 97 ≤ c := by omega
          obtain ⟨d, hd⟩ : ∃ d, d = unchr c := ⟨_, rfl⟩
          have hdc : isDig c = true := by simp [isDig]; omega
          have hd32 : d < 32 := by rw [hd]; exact unchr_lt hdc
          have hx : (c : Int) - 48 = (d : Int) := by rw [hd]; unfold unchr; rw [if_pos (by omega)]; omega
          obtain ⟨P, hP⟩ : ∃ P, P = val 32 ((cs.map unchr).take i) := ⟨_, rfl⟩
          have hP1 : val 32 ((cs.map unchr).take (i + 1)) = P * 32 + d := by
            rw [val_take (by rw [List.length_map, HL.out]; omega), ← hP, hd, HC.out]
            congr 1
            rw [List.getD_eq_getElem?_getD, List.getD_eq_getElem?_getD, List.getElem?_map, List.getElem?_eq_getElem (by rw [HL.out]; omega)]; rfl
          rw [← hP] at HT
          rw [← num_zero P i d hd32] at HT
          have HP1 := Lib.hid hP1
          have HDC := Lib.hid hdc
          clear hP hP1 hd hdc
          obtain ⟨wo, hwo⟩ : ∃ wo : World, wr = wo := ⟨_, rfl⟩
          subst hwo
          go_wp2_with fail
          go_loopw [7] (fun kv wi => ∃ k : Nat, k ≤ 5 ∧ kv = .int .i64 k ∧ Rows2 w wi 22 22 (Arr .u8 zer) (Arr .u8 (digs 256 20 (num P i d k)))) (fun kv _ => 5 - (intOf kv).toNat)
          case atStart => exact ⟨0, by omega, rfl, HT.out⟩
          case round =>
            obtain ⟨k, hk, rfl, hT2⟩ := hrel
            have HT2 := Lib.hid hT2
            clear hT2
            by_cases hk5 : k < 5
            · obtain ⟨t, ht⟩ : ∃ t, t = 5 * i + k := ⟨_, rfl⟩
              have hxt : 5 * (i : Int) + (k : Int) = (t : Int) := by omega
              have ht160 : t < 160 := by omega
              obtain ⟨D, hD⟩ : ∃ D, D = digs 256 20 (num P i d k) := ⟨_, rfl⟩
              rw [← hD] at HT2
              obtain ⟨x, hx⟩ : ∃ x, x = D.getD (t / 8) 0 := ⟨_, rfl⟩
              have hDl : D.length = 20 := by rw [hD]; exact digs_length _ _ _
              have gx : wr.cell? ⟨w.heap.size + 1, t / 8, none⟩ = some (.int .u8 (x : Int)) := by rw [hx]; exact cell_arr HT2.out.a1 (t / 8) (by omega)
              have hbits := bit_or x d (4 - k) (7 - t % 8) (by rw [hx]; exact getD_lt (by rw [hD]; exact digs_lt (by omega) _ _) (by omega)) hd32 (by omega) (by rw [hx, hD, show 7 - t % 8 + 1 = 8 - t % 8 by omega]; exact low_x P i d k t ht ht160)
              obtain ⟨v, hv⟩ : ∃ v, v = x + d / 2 ^ (4 - k) % 2 * 2 ^ (7 - t % 8) := ⟨_, rfl⟩
              rw [← hv] at hbits
              have HV := Lib.hid hv
              clear hv
              have HTT := Lib.hid ht
              have HD := Lib.hid hD
              have HX := Lib.hid hx
              clear ht hD hx
              have gz : wr.frozen? ⟨w.heap.size + 1, t / 8, none⟩ = false := by simp [World.frozen?, HT2.out.a1]
              go_wp2_with fail
              go_region
              have T3 := put1 HT2.out (t / 8) v
              have hset : D.set (t / 8) v = digs 256 20 (num P i d (k + 1)) := by
                rw [HV.out, HX.out, HD.out, ← set_bit _ _ t ht160 (Nat.mod_lt _ (by omega)) (by rw [HTT.out]; exact num_low _ _ _ _), HTT.out, ← num_succ P i d k hk5 (by omega)]
              rw [hset] at T3
              have T3 := Lib.hid T3
              go_wp2_with fail
              go_roundw
              case rel => exact ⟨k + 1, by omega, by go_num, T3.out⟩
              case measure => simp [intOf]; omega
            · obtain rfl : k = 5 := by omega
              rw [num_five P i d hlt, ← HP1.out] at HT2
              go_wp2_with fail
              go_roundw
              case rel => exact ⟨i + 1, by omega, by go_num, fun j hj => by
                rcases Nat.lt_or_ge j i with h | h
                · exact HALL.out j h
                · rw [show j = i by omega, ← HC.out]; exact HDC.out, HT2.out⟩
              case measure => simp [intOf]; omega
        have c2' : ¬ c ≤ 57 := c2
        by_cases c3 : c < 97
        · have q2 : ¬ 97 ≤ c := by omega
          go_wp2_with (with_reducible refine store_0 HT rfl 22 (.tmp 2) (.tmp 50) rfl (Arr .u8 zer) rfl rfl (size22 rfl) rfl (one_cells _) ?_; intro w1 T1)
          refine bodyPost_ret (results_row_tmp rfl _ _ w.heap.size 22 (Arr .u8 zer) (0, 0) _ rfl T1.out.a0 Try.underlying22 rfl (size22 rfl)) rfl ?_
          obtain ⟨z1, z2⟩ := BAD.out (by simp [isDig]; omega)
          exact ⟨by rw [z1, z2]; rfl, T1.out.bel⟩
        have c3' : 97 ≤ c := by omega
        by_cases c4 : 118 < c
        · have q2 : ¬ c ≤ 118 := by omega
          go_wp2_with (with_reducible refine store_0 HT rfl 22 (.tmp 2) (.tmp 50) rfl (Arr .u8 zer) rfl rfl (size22 rfl) rfl (one_cells _) ?_; intro w1 T1)
          refine bodyPost_ret (results_row_tmp rfl _ _ w.heap.size 22 (Arr .u8 zer) (0, 0) _ rfl T1.out.a0 Try.underlying22 rfl (size22 rfl)) rfl ?_
          obtain ⟨z1, z2⟩ := BAD.out (by simp [isDig]; omega)
          exact ⟨by rw [z1, z2]; rfl, T1.out.bel⟩
        · have c4' : c ≤ 118 := by omega
          obtain ⟨d, hd⟩ : ∃ d, d = unchr c := ⟨_, rfl⟩
          have hdc : isDig c = true := by simp [isDig]; omega
          have hd32 : d < 32 := by rw [hd]; exact unchr_lt hdc
          have hx : (c : Int) - 97 + 10 = (d : Int) := by rw [hd]; unfold unchr; rw [if_neg (by omega)]; omega
          obtain ⟨P, hP⟩ : ∃ P, P = val 32 ((cs.map unchr).take i) := ⟨_, rfl⟩
          have hP1 : val 32 ((cs.map unchr).take (i + 1)) = P * 32 + d := by
            rw [val_take (by rw [List.length_map, HL.out]; omega), ← hP, hd, HC.out]
            congr 1
            rw [List.getD_eq_getElem?_getD, List.getD_eq_getElem?_getD, List.getElem?_map, List.getElem?_eq_getElem (by rw [HL.out]; omega)]; rfl
          rw [← hP] at HT
          rw [← num_zero P i d hd32] at HT
          have HP1 := Lib.hid hP1
          have HDC := Lib.hid hdc
          clear hP hP1 hd hdc
          obtain ⟨wo, hwo⟩ : ∃ wo : World, wr = wo := ⟨_, rfl⟩
          subst hwo
          go_wp2_with fail
          go_loopw [7] (fun kv wi => ∃ k : Nat, k ≤ 5 ∧ kv = .int .i64 k ∧ Rows2 w wi 22 22 (Arr .u8 zer) (Arr .u8 (digs 256 20 (num P i d k)))) (fun kv _ => 5 - (intOf kv).toNat)
          case atStart => exact ⟨0, by omega, rfl, HT.out⟩
          case round =>
            obtain ⟨k, hk, rfl, hT2⟩ := hrel
            have HT2 := Lib.hid hT2
            clear hT2
            by_cases hk5 : k < 5
            · obtain ⟨t, ht⟩ : ∃ t, t = 5 * i + k := ⟨_, rfl⟩
              have hxt : 5 * (i : Int) + (k : Int) = (t : Int) := by omega
              have ht160 : t < 160 := by omega
              obtain ⟨D, hD⟩ : ∃ D, D = digs 256 20 (num P i d k) := ⟨_, rfl⟩
              rw [← hD] at HT2
              obtain ⟨x, hx⟩ : ∃ x, x = D.getD (t / 8) 0 := ⟨_, rfl⟩
              have hDl : D.length = 20 := by rw [hD]; exact digs_length _ _ _
              have gx : wr.cell? ⟨w.heap.size + 1, t / 8, none⟩ = some (.int .u8 (x : Int)) := by rw [hx]; exact cell_arr HT2.out.a1 (t / 8) (by omega)
              have hbits := bit_or x d (4 - k) (7 - t % 8) (by rw [hx]; exact getD_lt (by rw [hD]; exact digs_lt (by omega) _ _) (by omega)) hd32 (by omega) (by rw [hx, hD, show 7 - t % 8 + 1 = 8 - t % 8 by omega]; exact low_x P i d k t ht ht160)
              obtain ⟨v, hv⟩ : ∃ v, v = x + d / 2 ^ (4 - k) % 2 * 2 ^ (7 - t % 8) := ⟨_, rfl⟩
              rw [← hv] at hbits
              have HV := Lib.hid hv
              clear hv
              have HTT := Lib.hid ht
              have HD := Lib.hid hD
              have HX := Lib.hid hx
              clear ht hD hx
              have gz : wr.frozen? ⟨w.heap.size + 1, t / 8, none⟩ = false := by simp [World.frozen?, HT2.out.a1]
              go_wp2_with fail
              go_region
              have T3 := put1 HT2.out (t / 8) v
              have hset : D.set (t / 8) v = digs 256 20 (num P i d (k + 1)) := by
                rw [HV.out, HX.out, HD.out, ← set_bit _ _ t ht160 (Nat.mod_lt _ (by omega)) (by rw [HTT.out]; exact num_low _ _ _ _), HTT.out, ← num_succ P i d k hk5 (by omega)]
              rw [hset] at T3
              have T3 := Lib.hid T3
              go_wp2_with fail
              go_roundw
              case rel => exact ⟨k + 1, by omega, by go_num, T3.out⟩
              case measure => simp [intOf]; omega
            · obtain rfl : k = 5 := by omega
              rw [num_five P i d hlt, ← HP1.out] at HT2
              go_wp2_with fail
              go_roundw
              case rel => exact ⟨i + 1, by omega, by go_num, fun j hj => by
                rcases Nat.lt_or_ge j i with h | h
                · exact HALL.out j h
                · rw [show j = i by omega, ← HC.out]; exact HDC.out, HT2.out⟩
              case measure => simp [intOf]; omega
      · obtain rfl : i = 32 := by omega
        have hg : good cs = true := by
          simp only [good, Bool.and_eq_true, decide_eq_true_eq, List.all_eq_true]
          refine ⟨by have := HL.out; omega, fun x hx => ?_⟩
          obtain ⟨j, hj, rfl⟩ := List.getElem_of_mem hx
          have := HALL.out j (by have := HL.out; omega)
          rwa [List.getD_eq_getElem?_getD, List.getElem?_eq_getElem hj] at this
        have hgot : got cs = digs 256 20 (val 32 (cs.map unchr)) := by unfold got; rw [if_pos hg]
        rw [show 160 - 5 * 32 = 0 by omega, Nat.pow_zero, Nat.mul_one, List.take_of_length_le (by rw [List.length_map, HL.out]; omega), ← hgot] at HT
        have HG := Lib.hid hg
        have HS := Lib.hid (size22 (got_length cs))
        have HZ := Lib.hid (show (Arr .u8 zer).size = (Arr .u8 (got cs)).size by rw [Arr_size, Arr_size, got_length]; rfl)
        obtain ⟨G, hG⟩ : ∃ G, G = got cs := ⟨_, rfl⟩
        rw [← hG] at HT HS HZ
        have HGG := Lib.hid hG
        clear hG hgot hg
        go_wp2_with (first
          | (with_reducible refine wpList_load_row rfl 22 (.tmp 4) rfl _ rfl 22 _ (0, 0) _ HT.out.a1 Try.underlying22 rfl HS.out ?_)
          | (with_reducible refine store_0 HT rfl 22 (.tmp 2) (.tmp 75) rfl (Arr .u8 G) rfl rfl HS.out HZ.out (one_cells _) ?_; intro w1 T1))
        refine bodyPost_ret (results_row_tmp rfl _ _ w.heap.size 22 (Arr .u8 G) (0, 0) _ rfl T1.out.a0 Try.underlying22 rfl HS.out) rfl ?_
        exact ⟨by rw [HG.out, ← HGG.out]; rfl, T1.out.bel⟩
  · have h32' : ¬ ((s.size : Int) = 32) := by omega
    have hg : good cs = false := by
      have h' : ¬ cs.length = 32 := by have := HL.out; omega
      unfold good; rw [decide_eq_false h']; rfl
    have hgot : got cs = zer := by unfold got; rw [hg]; rfl
    rw [hg, hgot]
    clear hg hgot HI
    go_enter Try.func14, Try.ntmps14
    go_wp2_with (first
      | (with_reducible refine wpList_load_row rfl 22 (.tmp 4) rfl _ rfl 22 _ (0, 0) _ T0.out.a1 Try.underlying22 rfl (size22 rfl) ?_)
      | (with_reducible refine store_0 T0 rfl 22 (.tmp 2) (.tmp 12) rfl (Arr .u8 zer) rfl rfl (size22 rfl) rfl (one_cells _) ?_; intro w1 T1))
    refine bodyPost_ret (results_row_tmp rfl _ _ w.heap.size 22 (Arr .u8 zer) (0, 0) _ rfl T1.out.a0 Try.underlying22 rfl (size22 rfl)) rfl ?_
    exact ⟨rfl, T1.out.bel⟩
end Go.Proofs.Ytbenpkonepfipaa.Hr
