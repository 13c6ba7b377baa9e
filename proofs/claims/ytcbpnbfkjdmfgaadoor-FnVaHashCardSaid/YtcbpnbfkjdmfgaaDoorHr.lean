/- The reading of a hash's text, walked: formed, decode. No condition on the text but its length at decode. -/
import Derived.Test.YtcbpnbfkjdmfgaaDoorRb
import Derived.Test.YtcbpnbfkjdmfgaaDoorHexp
import Derived.WalkLawsBesides
set_option linter.unusedVariables false
namespace Go.Proofs.YtcbpnbfkjdmfgaaDoor.Hr
open Go.ChangeShapes Go.WideShapes Go.ChangeAt Go.RowKit
open Go.Proofs.YtcbpnbfkjdmfgaaDoor.Dig Go.Proofs.YtcbpnbfkjdmfgaaDoor.Mem Go.Proofs.YtcbpnbfkjdmfgaaDoor.Rb

/-- A text's bytes. -/
def IsTxt (s : ByteArray) (cs : List Nat) : Prop := cs.length = s.size ∧ (∀ c ∈ cs, c < 256) ∧ ∀ k, k < s.size → ∀ w, (Instr.index 9 (.string s) (.int .i64 (k : Int))).run Tryd.prog w = .ok (.int .u8 ((cs.getD k 0 : Nat) : Int)) w
/-- A text as a list of bytes. -/
def chars (s : ByteArray) : List Nat := s.data.toList.map UInt8.toNat
theorem isTxt (s : ByteArray) : IsTxt s (chars s) ∧ s = txt (chars s) := by
  obtain ⟨⟨l⟩⟩ := s
  refine ⟨⟨by simp [chars, ByteArray.size], fun c hc => ?_, fun k hk w => ?_⟩, ?_⟩
  · obtain ⟨x, _, rfl⟩ := List.mem_map.1 hc
    exact x.toNat_lt
  · have := run_index_string (P := Tryd.prog) w 9 ⟨⟨l⟩⟩ .i64 (k : Int) Tryd.underlying9
    rw [dif_pos ⟨by omega, by omega⟩] at this
    rw [this]
    have hl : k < l.length := by simpa [ByteArray.size] using hk
    simp [chars, List.getElem?_eq_getElem hl]
    rfl
  · simp [chars, txt, u8s, Function.comp_def]

def good (cs : List Nat) : Bool := decide (cs.length = 32) && cs.all isDig

set_option maxRecDepth 100000 in
theorem formed (w : World) (s : ByteArray) (cs : List Nat) (h : IsTxt s cs) :
    Calls Tryd.prog 25 #[.string s] w fun e w' => e = .returned (.bool (good cs)) ∧ w = w' := by
  obtain ⟨hl, hb, hi⟩ := h
  by_cases h32 : s.size = 32
  · have HL := Lib.hid hl
    have HB := Lib.hid hb
    have HI := Lib.hid hi
    clear hl hb hi
    go_enter Tryd.func25, Tryd.ntmps25
    go_wp2_with fail
    go_loopw [3] (fun i wr => ∃ k : Nat, k ≤ 32 ∧ i = .int .i64 k ∧ wr = w ∧ ∀ j, j < k → isDig (cs.getD j 0) = true) (fun i _ => 32 - (intOf i).toNat)
    case atStart => exact ⟨0, by omega, rfl, rfl, by omega⟩
    case round =>
      obtain ⟨k, hk, rfl, rfl, hall⟩ := hrel
      have HALL := Lib.hid hall
      clear hall
      by_cases hlt : k < 32
      · obtain ⟨c, hc⟩ : ∃ c, c = cs.getD k 0 := ⟨_, rfl⟩
        have hix := HI.out k (by omega)
        rw [← hc] at hix
        have HC := Lib.hid hc
        clear hc
        have bad : isDig c = false → good cs = false := fun h => by
          cases hg : good cs with
          | false => rfl
          | true =>
            simp only [good, Bool.and_eq_true, decide_eq_true_eq, List.all_eq_true] at hg
            have := hg.2 c (by rw [HC.out, List.getD_eq_getElem?_getD, List.getElem?_eq_getElem (by omega)]; exact List.getElem_mem _)
            rw [h] at this; cases this
        have BAD := Lib.hid bad
        clear bad
        by_cases c1 : c < 48
        · go_wp2_with fail
          go_ret
          exact ⟨by rw [BAD.out (by simp [isDig]; omega)]; rfl, rfl⟩
        by_cases c2 : c ≤ 57
        · have c3 : ¬ 57 < c := by omega
          go_wp2_with fail
          go_roundw
          case rel => exact ⟨k + 1, by omega, by go_num, trivial, fun j hj => by
            rcases Nat.lt_or_ge j k with h | h
            · exact HALL.out j h
            · rw [show j = k by omega, ← HC.out]; simp [isDig]; omega⟩
          case measure => simp [intOf]; omega
        have c2' : 57 < c := by omega
        by_cases c3 : c < 97
        · go_wp2_with fail
          go_ret
          exact ⟨by rw [BAD.out (by simp [isDig]; omega)]; rfl, rfl⟩
        by_cases c4 : 118 < c
        · go_wp2_with fail
          go_ret
          exact ⟨by rw [BAD.out (by simp [isDig]; omega)]; rfl, rfl⟩
        · go_wp2_with fail
          go_roundw
          case rel => exact ⟨k + 1, by omega, by go_num, trivial, fun j hj => by
            rcases Nat.lt_or_ge j k with h | h
            · exact HALL.out j h
            · rw [show j = k by omega, ← HC.out]; simp [isDig]; omega⟩
          case measure => simp [intOf]; omega
      · obtain rfl : k = 32 := by omega
        go_wp2_with fail
        go_ret
        have : good cs = true := by
          simp only [good, Bool.and_eq_true, decide_eq_true_eq, List.all_eq_true]
          refine ⟨by have := HL.out; omega, fun x hx => ?_⟩
          obtain ⟨j, hj, rfl⟩ := List.getElem_of_mem hx
          have := HALL.out j (by have := HL.out; omega)
          rwa [List.getD_eq_getElem?_getD, List.getElem?_eq_getElem hj] at this
        exact ⟨by rw [this]; rfl, rfl⟩
  · have : good cs = false := by
      have h' : ¬ cs.length = 32 := by omega
      unfold good; rw [decide_eq_false h']; rfl
    rw [this]
    clear hb hi
    go_enter Tryd.func25, Tryd.ntmps25
    go_wp2_with fail
    go_ret
    exact ⟨rfl, rfl⟩

theorem info5 : (Tryd.prog.info? 5).map (fun i => (i.zero, i.size, i.bytes)) = some (some (.int .u8 0), 1, 1) := by kernel_rfl
theorem val_take {xs : List Nat} {B k : Nat} (hk : k < xs.length) : val B (xs.take (k + 1)) = val B (xs.take k) * B + xs.getD k 0 := by
  rw [List.take_succ_eq_append_getElem hk, val_snoc, List.getD_eq_getElem?_getD, List.getElem?_eq_getElem hk]; rfl
theorem or_five (A x V : Nat) (hA : A = V % 4294967296) (hx : x < 32) : bits .or .u32 (((A : Nat) : Int) * 32 % 4294967296) ((x : Nat) : Int) = (((V * 32 + x) % 4294967296 : Nat) : Int) := by
  have e : ((A : Nat) : Int) * 32 % 4294967296 = ((A * 32 % 4294967296 : Nat) : Int) := by omega
  rw [e, u32_or_nat _ _ (by omega) (by omega)]
  have e2 : A * 32 % 4294967296 = 2 ^ 5 * (A % 134217728) := by omega
  rw [e2, ← Nat.two_pow_add_eq_or_of_lt (by omega : x < 2 ^ 5)]
  congr 1
  omega
theorem eight (V b d : Nat) (hb : b ≤ 7) (hd : d = V / 2 ^ b % 256) : ((V : Nat) : Int) % 4294967296 / 2 ^ b % 256 = ((d : Nat) : Int) := by
  have e : ((V : Nat) : Int) % 4294967296 / 2 ^ b % 256 = ((V % 4294967296 / 2 ^ b % 256 : Nat) : Int) := by simp
  rw [e, show (256 : Nat) = 2 ^ 8 from rfl, low_bits V b 8 (by omega), hd]

set_option maxRecDepth 100000 in
set_option maxHeartbeats 1000000 in
theorem decode (w : World) (s : ByteArray) (cs : List Nat) (h : IsTxt s cs) (hg : good cs = true) :
    Calls Tryd.prog 26 #[.string s] w fun e w' => ∃ a c, e = .returned (.slice a 20 c) ∧ RB w' a 20 c (digs 256 20 (val 32 (cs.map unchr))) ∧ Below w.heap.size w w' := by
  obtain ⟨hl, hb, hi⟩ := h
  simp only [good, Bool.and_eq_true, decide_eq_true_eq, List.all_eq_true] at hg
  obtain ⟨h32, hall⟩ := hg
  have hs : s.size = 32 := by omega
  have hdig : ∀ k, k < 32 → isDig (cs.getD k 0) = true := fun k hk => by
    rw [List.getD_eq_getElem?_getD, List.getElem?_eq_getElem (by omega)]; exact hall _ (List.getElem_mem _)
  have HDIG := Lib.hid hdig
  have HL := Lib.hid h32
  have HI := Lib.hid hi
  clear hl hb hi h32 hall hdig
  obtain ⟨i5, hi, hz0, hz1, hz2⟩ := info_parts info5
  go_enter Tryd.func26, Tryd.ntmps26
  go_wp2_with (first
    | (at_make; refine wpList_make_own _ rfl _ _ 22 rfl w.heap.size 5 i5 (.int .u8 0) 1 Tryd.underlying22 hi hz0 hz1 .i64 .i64 20 20 rfl rfl rfl (by rw [hz2]; omega) (by unfold maxLen; omega) (Nat.le_refl _) ?_; intro w1 hown hg1))
  go_loopw [3, 4, 5, 6] (fun v acc bits i wr => ∃ k m r : Nat, k ≤ 32 ∧ r < 8 ∧ 5 * k = 8 * m + r ∧ i = .int .i64 k ∧ acc = .int .u32 ((val 32 ((cs.map unchr).take k) % 4294967296 : Nat) : Int) ∧ bits = .int .i64 r ∧
    wr.ownsRow w.heap.size 5 1 v m (bs (digs 256 m (val 32 ((cs.map unchr).take k) / 2 ^ r))) ∧ Below w.heap.size w wr) (fun _ _ _ i _ => 32 - (intOf i).toNat)
  case atStart =>
    exact ⟨0, 0, 0, by omega, by omega, by omega, rfl, rfl, rfl, by simpa [digs, bs] using hown, (Below.refl _ _).grown hg1 (Nat.le_refl _) (fun j hj => by cases hj)⟩
  case round =>
    obtain ⟨k, m, r, hk, hr, hkm, rfl, rfl, rfl, hown, hbel⟩ := hrel
    obtain ⟨A, hA⟩ : ∃ A, A = val 32 ((cs.map unchr).take k) % 4294967296 := ⟨_, rfl⟩
    rw [← hA]
    have hAl : A < 4294967296 := by omega
    have HA := Lib.hid hA
    have HKM := Lib.hid hkm
    clear hA hkm
    by_cases hlt : k < 32
    · obtain ⟨c, hc⟩ : ∃ c, c = cs.getD k 0 := ⟨_, rfl⟩
      have hix := HI.out k (by omega)
      have hdc := HDIG.out k hlt
      rw [← hc] at hix hdc
      obtain ⟨x, hx⟩ : ∃ x, x = unchr c := ⟨_, rfl⟩
      have hx32 : x < 32 := by rw [hx]; exact unchr_lt hdc
      obtain ⟨V, hV⟩ : ∃ V, V = val 32 ((cs.map unchr).take (k + 1)) := ⟨_, rfl⟩
      have hV1 : V = val 32 ((cs.map unchr).take k) * 32 + x := by
        rw [hV, hx, hc, val_take (by rw [List.length_map, HL.out]; exact hlt)]
        congr 1
        rw [List.getD_eq_getElem?_getD, List.getD_eq_getElem?_getD, List.getElem?_map, List.getElem?_eq_getElem (by rw [HL.out]; exact hlt)]; rfl
      have hE := or_five A x (val 32 ((cs.map unchr).take k)) HA.out hx32
      rw [← hV1] at hE
      have HV := Lib.hid hV
      have HV1 := Lib.hid hV1
      clear hc hV hV1
      have hdc' : (48 ≤ c ∧ c ≤ 57) ∨ (97 ≤ c ∧ c ≤ 118) := by simpa [isDig] using hdc
      clear hdc
      by_cases c1 : c < 97
      · have hxc : (c : Int) - 48 = (x : Int) := by rw [hx]; unfold unchr; rw [if_pos c1]; omega
        have hc48 : 48 ≤ c := by omega
        have c1' : ¬ 97 ≤ c := by omega
        clear hx hdc'
        by_cases hr3 : 3 ≤ r
        · have hr3' : (8 : Int) ≤ (r : Int) + 5 := by omega
          obtain ⟨d, hd⟩ : ∃ d, d = V / 2 ^ (r - 3) % 256 := ⟨_, rfl⟩
          have hei := eight V (r - 3) d (by omega) hd
          have HD := Lib.hid hd
          have hml : m ≤ 20 := by have := HKM.out; omega
          have hws := hbel.size
          clear hd
          go_wp2_with (first
            | (at_builtin; refine wpList_append_own _ rfl _ _ 22 rfl w.heap.size 5 i5 (.int .u8 0) 1 1 Tryd.underlying22 hi hz0 hz1 hz2 rfl (by decide) _ _ _ rfl (hown.alloc _) ⟨wr.heap.size, 0, none⟩ 1 1 [.int .u8 ((d : Nat) : Int)] rfl rfl (cell_one_new _ _ _) (by simp [Value.oneCell']) (by unfold maxLen; omega) (by omega) (by simp; omega) ?_; intro v' w2 hown' hgrow _))
          go_roundw
          case rel =>
            refine ⟨k + 1, m + 1, r - 3, by omega, by omega, by have := HKM.out; omega, by go_num, by rw [← HV.out]; exact congrArg (Value.int .u32) (by omega), by go_num, ?_, ?_⟩
            · have e := digs_more 8 m (r - 3) V
              rw [show r - 3 + 8 = r + 5 by omega] at e
              rw [← HV.out, show (256 : Nat) = 2 ^ 8 from rfl, ← e, bs_append]
              rw [show V / 2 ^ (r - 3) % 2 ^ 8 = d from HD.out.symm, HV1.out, shift_in _ _ _ _ (by omega : x < 2 ^ 5)]
              exact hown'
            · exact (hbel.alloc hws _).grown hgrow (by simp; omega) (fun j hj => (hown.lt j hj).1)
          case measure => simp [intOf]; omega
        · have hr3' : ¬ (8 : Int) ≤ (r : Int) + 5 := by omega
          go_wp2_with fail
          go_roundw
          case rel =>
            refine ⟨k + 1, m, r + 5, by omega, by omega, by have := HKM.out; omega, by go_num, by rw [← HV.out]; exact congrArg (Value.int .u32) (by omega), by go_num, ?_, hbel⟩
            rw [← HV.out, HV1.out, shift_in _ _ _ _ (by omega : x < 2 ^ 5)]
            exact hown
          case measure => simp [intOf]; omega
      · have hxc : (c : Int) - 97 + 10 = (x : Int) := by rw [hx]; unfold unchr; rw [if_neg c1]; omega
        have hc97 : 97 ≤ c := by omega
        have hc118 : c ≤ 118 := by omega
        clear hx hdc'
        by_cases hr3 : 3 ≤ r
        · have hr3' : (8 : Int) ≤ (r : Int) + 5 := by omega
          obtain ⟨d, hd⟩ : ∃ d, d = V / 2 ^ (r - 3) % 256 := ⟨_, rfl⟩
          have hei := eight V (r - 3) d (by omega) hd
          have HD := Lib.hid hd
          have hml : m ≤ 20 := by have := HKM.out; omega
          have hws := hbel.size
          clear hd
          go_wp2_with (first
            | (at_builtin; refine wpList_append_own _ rfl _ _ 22 rfl w.heap.size 5 i5 (.int .u8 0) 1 1 Tryd.underlying22 hi hz0 hz1 hz2 rfl (by decide) _ _ _ rfl (hown.alloc _) ⟨wr.heap.size, 0, none⟩ 1 1 [.int .u8 ((d : Nat) : Int)] rfl rfl (cell_one_new _ _ _) (by simp [Value.oneCell']) (by unfold maxLen; omega) (by omega) (by simp; omega) ?_; intro v' w2 hown' hgrow _))
          go_roundw
          case rel =>
            refine ⟨k + 1, m + 1, r - 3, by omega, by omega, by have := HKM.out; omega, by go_num, by rw [← HV.out]; exact congrArg (Value.int .u32) (by omega), by go_num, ?_, ?_⟩
            · have e := digs_more 8 m (r - 3) V
              rw [show r - 3 + 8 = r + 5 by omega] at e
              rw [← HV.out, show (256 : Nat) = 2 ^ 8 from rfl, ← e, bs_append]
              rw [show V / 2 ^ (r - 3) % 2 ^ 8 = d from HD.out.symm, HV1.out, shift_in _ _ _ _ (by omega : x < 2 ^ 5)]
              exact hown'
            · exact (hbel.alloc hws _).grown hgrow (by simp; omega) (fun j hj => (hown.lt j hj).1)
          case measure => simp [intOf]; omega
        · have hr3' : ¬ (8 : Int) ≤ (r : Int) + 5 := by omega
          go_wp2_with fail
          go_roundw
          case rel =>
            refine ⟨k + 1, m, r + 5, by omega, by omega, by have := HKM.out; omega, by go_num, by rw [← HV.out]; exact congrArg (Value.int .u32) (by omega), by go_num, ?_, hbel⟩
            rw [← HV.out, HV1.out, shift_in _ _ _ _ (by omega : x < 2 ^ 5)]
            exact hown
          case measure => simp [intOf]; omega
    · obtain rfl : k = 32 := by omega
      have hkm := HKM.out
      obtain ⟨rfl, rfl⟩ : m = 20 ∧ r = 0 := by omega
      go_wp2_with fail
      rw [List.take_of_length_le (by rw [List.length_map, HL.out]; exact Nat.le_refl _), Nat.pow_zero, Nat.div_one] at hown
      obtain ⟨g, cap, rfl, _, _⟩ := hown.form (by omega)
      go_ret
      exact ⟨_, _, rfl, RB.of_own hown (digs_lt (by omega) _ _), hbel⟩
end Go.Proofs.YtcbpnbfkjdmfgaaDoor.Hr
