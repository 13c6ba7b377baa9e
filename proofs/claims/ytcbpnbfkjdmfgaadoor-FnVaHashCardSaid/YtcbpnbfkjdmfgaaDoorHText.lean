/- The text of a hash, the reference's, walked. Condition: twenty bytes. -/
import Derived.Test.YtcbpnbfkjdmfgaaDoorOrd3
import Derived.Test.YtcbpnbfkjdmfgaaDoorRb
import Derived.Deep.OwnRows
set_option linter.unusedVariables false
namespace Go.Proofs.YtcbpnbfkjdmfgaaDoor.HText
open Go.ChangeShapes Go.WideShapes Go.ChangeAt Go.RowKit
open Go.Proofs.YtcbpnbfkjdmfgaaDoor.Dig Go.Proofs.YtcbpnbfkjdmfgaaDoor.Mem Go.Proofs.YtcbpnbfkjdmfgaaDoor.Ord Go.Proofs.YtcbpnbfkjdmfgaaDoor.Enc

theorem made_bs (n : Nat) : madeCells #[Value.int .u8 0] n = (bs (List.replicate n 0)).toArray := by
  apply Array.toList_inj.1
  rw [toList_madeCells_one]
  simp [bs]
theorem info_u8 : (Tryd.prog.info? 5).map (fun i => (i.zero, i.size, i.bytes)) = some (some (.int .u8 0), 1, 1) := by kernel_rfl
theorem info_split {P : Program} {t : TypeId} {z : Option Value} {s b : Nat} (h : (P.info? t).map (fun i => (i.zero, i.size, i.bytes)) = some (z, s, b)) : ∃ i, P.info? t = some i ∧ i.zero = z ∧ i.size = s ∧ i.bytes = b := by
  cases hi : P.info? t with
  | none => simp [hi] at h
  | some i =>
    simp only [hi, Option.map_some, Option.some.injEq, Prod.mk.injEq] at h
    exact ⟨i, rfl, h.1, h.2.1, h.2.2⟩
theorem htext_length (xs : List Nat) : (htext xs).length = 32 := by unfold htext; rw [List.length_map, digs_length]
theorem htext_get (xs : List Nat) (i : Nat) (h : i < 32) : (htext xs)[i]? = some (chr (Dig.part (val 256 xs) (5 * i) 5)) := by
  unfold htext; rw [List.getElem?_map, part_five _ _ h]; rfl
/-- The text so far. -/
def tx (xs : List Nat) (i : Nat) : List Nat := (htext xs).take i ++ List.replicate (32 - i) 0
theorem tx_length (xs : List Nat) (i : Nat) (h : i ≤ 32) : (tx xs i).length = 32 := by
  unfold tx; rw [List.length_append, List.length_take, List.length_replicate, htext_length]; omega
theorem row_put (l : List Nat) (n i : Nat) (hl : l.length = n) (h : i < n) : (bs (l.take i ++ List.replicate (n - i) 0)).toArray.setIfInBounds i (.int .u8 ((l.getD i 0 : Nat) : Int)) = (bs (l.take (i + 1) ++ List.replicate (n - (i + 1)) 0)).toArray := by
  rw [show n - i = (n - (i + 1)) + 1 by omega, List.replicate_succ, List.take_succ_eq_append_getElem (by omega)]
  simp only [bs, List.setIfInBounds_toArray]
  congr 1
  rw [List.map_append, List.set_append_right _ _ (by rw [List.length_map, List.length_take]; omega), List.length_map, List.length_take, show i - min i l.length = 0 by omega, List.map_cons, List.set_cons_zero, List.map_append, List.map_append, List.append_assoc, List.getD_eq_getElem?_getD, List.getElem?_eq_getElem (by omega)]
  rfl
theorem tx_set (xs : List Nat) (i : Nat) (h : i < 32) : (bs (tx xs i)).toArray.setIfInBounds i (.int .u8 ((chr (Dig.part (val 256 xs) (5 * i) 5) : Nat) : Int)) = (bs (tx xs (i + 1))).toArray := by
  have hg : (htext xs).getD i 0 = chr (Dig.part (val 256 xs) (5 * i) 5) := by rw [List.getD_eq_getElem?_getD, htext_get xs i h]; rfl
  rw [← hg]
  exact row_put (htext xs) 32 i (htext_length xs) h
theorem h32 (xs : List Nat) : (bs (htext xs)).toArray.size = 32 * 1 ∧ (bs (htext xs)).toArray.toList.take (32 * 1) = bs (htext xs) := by
  obtain ⟨l, hl⟩ : ∃ l, l = htext xs := ⟨_, rfl⟩
  have h := htext_length xs
  rw [← hl] at h ⊢
  refine ⟨by rw [List.size_toArray, bs_length, h], ?_⟩
  rw [List.toList_toArray, List.take_of_length_le (by rw [bs_length, h]; omega)]
theorem setc {w : World} {g t : Nat} {A : Array Value} {T : TypeId} {v : Value} (h : w.heap[g]? = some (.cells A T (0, 0))) : (w.setCell ⟨g, t, none⟩ v).heap[g]? = some (.cells (A.setIfInBounds t v) T (0, 0)) := by
  simp [World.setCell, Array.getElem?_modify, h]
theorem seto {w : World} {g b j : Nat} {v : Value} (h : g ≠ b) : (w.setCell ⟨g, j, none⟩ v).heap[b]? = w.heap[b]? := by
  simp [World.setCell, Array.getElem?_modify, h]
theorem digit_int (d : Nat) (h : d < 32) : ∀ w, (Instr.index 9 (.string ⟨#[48, 49, 50, 51, 52, 53, 54, 55, 56, 57, 97, 98, 99, 100, 101, 102, 103, 104, 105, 106, 107, 108, 109, 110, 111, 112, 113, 114, 115, 116, 117, 118]⟩) (.int .i64 ((d : Nat) : Int))).run Tryd.prog w = .ok (.int .u8 ((chr d : Nat) : Int)) w := by
  intro w
  have hs := DIG_size
  have := run_index_string (P := Tryd.prog) w 9 DIG .i64 (d : Int) Tryd.underlying9
  rw [dif_pos ⟨by omega, by rw [hs]; omega⟩] at this
  have e2 := DIG_at ⟨d, h⟩
  simp only [Int.toNat_natCast] at this
  rw [← e2]
  exact this
theorem and_one (x e b : Nat) (hx : x < 256) (hb : b = x / 2 ^ e % 2) : bits .and .u8 ((x : Int) / 2 ^ e) 1 = (b : Int) := by
  have h1 : ((x : Nat) : Int) / 2 ^ e = ((x / 2 ^ e : Nat) : Int) := by simp
  have hlt : x / 2 ^ e < 256 := Nat.lt_of_le_of_lt (Nat.div_le_self _ _) hx
  rw [h1]
  obtain ⟨y, hy⟩ : ∃ y, y = x / 2 ^ e := ⟨_, rfl⟩
  rw [← hy] at hlt hb ⊢
  rw [hb]
  have hall : (List.range 256).all (fun y => bits .and .u8 (y : Int) 1 == ((y % 2 : Nat) : Int)) = true := by kernel_rfl
  have := List.all_eq_true.1 hall y (List.mem_range.2 hlt)
  simpa using this
theorem or_one (N b : Nat) (hN : N < 16) (hb : b < 2) : bits .or .i64 ((N : Int) * 2) (b : Int) = ((N * 2 + b : Nat) : Int) := by
  have hall : (List.range 16).all (fun N => (List.range 2).all fun b => bits .or .i64 ((N : Int) * 2) (b : Int) == ((N * 2 + b : Nat) : Int)) = true := by kernel_rfl
  have h1 := List.all_eq_true.1 hall N (List.mem_range.2 hN)
  have h2 := List.all_eq_true.1 h1 b (List.mem_range.2 hb)
  simpa using h2
theorem part_lt (V i t : Nat) : Dig.part V i t < 2 ^ t := Nat.mod_lt _ (Nat.two_pow_pos t)

set_option maxRecDepth 100000 in
set_option maxHeartbeats 1000000 in
theorem specText (w : World) (xs : List Nat) (hx : xs.length = 20) (bx : ∀ x ∈ xs, x < 256) :
    Calls Tryd.prog 10 #[.agg (Arr .u8 xs)] w fun e w' => e = .returned (.string (txt (htext xs))) ∧ Below w.heap.size w w' := by
  obtain ⟨i5, hi, hz0, hz1, hz2⟩ := info_split info_u8
  have HX := Lib.hid hx
  have BX := Lib.hid bx
  have BIT := Lib.hid (bit_at xs hx bx)
  obtain ⟨V, hV⟩ : ∃ V, V = val 256 xs := ⟨_, rfl⟩
  have HV := Lib.hid hV
  clear hx bx hV
  go_enter Tryd.func10, Tryd.ntmps10
  go_wp2_with (at_make; refine wpList_make_row _ rfl _ _ 22 rfl 5 i5 (.int .u8 0) Tryd.underlying22 hi hz0 hz1 rfl .i64 .i64 32 rfl rfl (by rw [hz2]; omega) (by omega) ?_; rw [made_bs])
  go_loopw [4] (fun iv wi => ∃ i : Nat, i ≤ 32 ∧ iv = .int .i64 (i : Int) ∧ wi.heap[w.heap.size]? = some (.cells (Arr .u8 xs) 23 (0, 0)) ∧ wi.heap[w.heap.size + 1]? = some (.cells (bs (tx xs i)).toArray 5 (0, 0)) ∧ Below w.heap.size w wi) (fun iv _ => 32 - (intOf iv).toNat)
  case atStart => exact ⟨0, by omega, rfl, heap_old2 w _ _, by simpa [tx] using heap_new2 w _ _, ((Below.refl _ _).alloc (Nat.le_refl _) _).alloc (by simp) _⟩
  case round =>
    obtain ⟨i, hi32, rfl, hA, hO, hbel⟩ := hrel
    have HA := Lib.hid hA
    have HO := Lib.hid hO
    have HB := Lib.hid hbel
    by_cases hlt : i < 32
    · have hki : (i : Int) < 32 := by omega
      obtain ⟨wO, hwO⟩ : ∃ x, x = wr := ⟨_, rfl⟩
      subst hwO
      obtain ⟨k0, hk0⟩ : ∃ k, k = 5 * i := ⟨_, rfl⟩
      have ek0 : 5 * (i : Int) = (k0 : Int) := by omega
      have HK0 := Lib.hid hk0
      clear hA hO hbel hk0
      go_wp2_with fail
      go_loopw [5, 6] (fun nv kv wi => ∃ j : Nat, j ≤ 5 ∧ kv = .int .i64 ((k0 + j : Nat) : Int) ∧ nv = .int .i64 ((Dig.part V k0 j : Nat) : Int) ∧ wi = wO) (fun _ kv _ => k0 + 5 - (intOf kv).toNat)
      case atStart => exact ⟨0, by omega, rfl, by rw [part_zero]; rfl, rfl⟩
      case round =>
        obtain ⟨j, hj, rfl, rfl, rfl⟩ := hrel
        by_cases hlt5 : j < 5
        · have hk5 : k0 + j < k0 + 5 := by omega
          obtain ⟨k, hk⟩ : ∃ k, k = k0 + j := ⟨_, rfl⟩
          rw [← hk]
          have hk160 : k < 160 := by have := HK0.out; omega
          obtain ⟨m, hm⟩ : ∃ m, m = k / 8 := ⟨_, rfl⟩
          obtain ⟨x, hxx⟩ : ∃ x, x = xs.getD m 0 := ⟨_, rfl⟩
          have hx256 : x < 256 := by rw [hxx]; exact getD_lt BX.out (by rw [HX.out]; omega)
          have cx := cell_arr HA.out m (by rw [HX.out]; omega)
          rw [← hxx] at cx
          have s1 : (k : Int) / 8 = (m : Int) := by omega
          have s2 : Int.tdiv (k : Int) 8 = (m : Int) := by rw [Int.tdiv_eq_ediv_of_nonneg (by omega)]; exact s1
          have hm20 : m < 20 := by omega
          obtain ⟨b, hb⟩ : ∃ b, b = x / 2 ^ (7 - k % 8) % 2 := ⟨_, rfl⟩
          have hb2 : b < 2 := by omega
          have hand := and_one x (7 - k % 8) b hx256 hb
          obtain ⟨N, hN⟩ : ∃ N, N = Dig.part V k0 j := ⟨_, rfl⟩
          rw [← hN]
          have hN16 : N < 16 := by rw [hN]; exact Nat.lt_of_lt_of_le (part_lt V k0 j) (Nat.pow_le_pow_right (by omega) (by omega : j ≤ 4))
          have hor := or_one N b hN16 hb2
          have PS := Lib.hid (show Dig.part V k0 (j + 1) = N * 2 + b by
            rw [part_succ V k0 j (by have := HK0.out; omega), ← hN, hb, hxx, hm]
            have := BIT.out k hk160
            rw [HV.out, ← hk, this])
          have hkl : (k : Int) < (k0 : Int) + 5 := by omega
          have HK := Lib.hid hk
          clear hk hm hxx hb hN
          go_wp2_with fail
          go_roundw
          case rel => exact ⟨j + 1, by omega, congrArg (Value.int .i64) (by have := HK.out; omega), by rw [PS.out]; go_num, trivial⟩
          case measure => simp [intOf]; omega
        · obtain rfl : j = 5 := by omega
          obtain ⟨d, hd⟩ : ∃ d, d = Dig.part V k0 5 := ⟨_, rfl⟩
          rw [← hd]
          have hd32 : d < 32 := by rw [hd]; exact part_lt V k0 5
          have hix := digit_int d hd32
          have co : wr.cell? ⟨w.heap.size + 1, i, none⟩ = some (.int .u8 (((tx xs i).getD i 0 : Nat) : Int)) := by
            simp only [World.cell?, HO.out]
            simpa using bs_get (by rw [tx_length xs i hi32]; exact hlt)
          have fo : wr.frozen? ⟨w.heap.size + 1, i, none⟩ = false := by simp [World.frozen?, HO.out]
          have HD := Lib.hid hd
          clear hd hlt5
          go_wp2_with fail
          go_roundw
          case rel =>
            have e := setc (t := i) (v := .int .u8 ((chr d : Nat) : Int)) HO.out
            have e2 := tx_set xs i hlt
            rw [← HV.out, ← HK0.out, ← HD.out] at e2
            rw [e2] at e
            exact ⟨i + 1, by omega, by go_num, (seto (by omega)).trans HA.out, e, HB.out.setCell (by show w.heap.size ≤ w.heap.size + 1; omega) _⟩
          case measure => simp [intOf]; omega
    · obtain rfl : i = 32 := by omega
      have e32 : tx xs 32 = htext xs := by unfold tx; rw [List.take_of_length_le (by rw [htext_length]; omega), Nat.sub_self, List.replicate_zero, List.append_nil]
      rw [e32] at HO
      have HL1 := Lib.hid (h32 xs).1
      have HL2 := Lib.hid (h32 xs).2
      have OWN : wr.ownsRow (w.heap.size + 1) 5 1 (.slice (some ⟨w.heap.size + 1, 0, none⟩) 32 32) 32 (bs (htext xs)) := by
        exact ⟨by rw [bs_length, htext_length], Or.inr ⟨w.heap.size + 1, 32, (bs (htext xs)).toArray, rfl, Nat.le_refl _, HO.out, Nat.le_refl _, by unfold maxLen; omega, HL1.out, HL2.out⟩⟩
      have hconv := run_string_own OWN
      clear hA hO hbel OWN
      go_wp2
      go_ret
      exact ⟨rfl, HB.out⟩
end Go.Proofs.YtcbpnbfkjdmfgaaDoor.HText
