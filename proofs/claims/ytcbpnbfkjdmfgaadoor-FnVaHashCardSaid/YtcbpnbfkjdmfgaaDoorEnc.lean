/- The program's text of some bytes, walked: the digits of five bits each. Condition: at most 1000 bytes. -/
import Derived.Test.YtcbpnbfkjdmfgaaDoorOrd2
import Derived.Test.YtcbpnbfkjdmfgaaDoorHexp
import Derived.Deep.AppendLies
import Derived.Maps.AppendAt
set_option linter.unusedVariables false
namespace Go.Proofs.YtcbpnbfkjdmfgaaDoor.Enc
open Go.ChangeShapes Go.WideShapes Go.ChangeAt Go.RowKit
open Go.Proofs.YtcbpnbfkjdmfgaaDoor.Dig Go.Proofs.YtcbpnbfkjdmfgaaDoor.Mem

/-- Bytes as values; as a text. -/
def bs (xs : List Nat) : List Value := xs.map fun (x : Nat) => Value.int .u8 (x : Int)
def txt (xs : List Nat) : ByteArray := ⟨(u8s xs).toArray⟩
theorem bs_length (xs : List Nat) : (bs xs).length = xs.length := by simp [bs]
theorem bs_append (xs ys : List Nat) : bs (xs ++ ys) = bs xs ++ bs ys := by simp [bs]

theorem bs_get {xs : List Nat} {i : Nat} (h : i < xs.length) : (bs xs)[i]? = some (.int .u8 ((xs.getD i 0 : Nat) : Int)) := by
  simp [bs, List.getElem?_eq_getElem h]
/-- A slice of the call's own, as a text. -/
theorem run_string_own {w : World} {base n : Nat} {v : Value} {xs : List Nat} (h : w.ownsRow base 5 1 v n (bs xs)) :
    ∀ dst, Tryd.prog.underlying dst = some .string → (convert 22 dst v).run Tryd.prog w = .ok (.string (txt xs)) w := by
  intro dst hd
  have hl : xs.length = n := by have := h.1; rw [bs_length] at this; omega
  by_cases h0 : n = 0
  · subst h0
    have hx : xs = [] := List.length_eq_zero_iff.1 hl
    subst hx
    rcases h.2 with ⟨rfl, _⟩ | ⟨g, cap, cur, rfl, _⟩
    · exact run_convert_bytes_nil (P := Tryd.prog) w 22 5 Tryd.underlying22 Tryd.underlying5 0 0 dst hd
    · have := run_convert_bytes_arg (P := Tryd.prog) w 22 5 Tryd.underlying22 Tryd.underlying5 g 0 0 cap [] rfl (fun i hi => by omega) dst hd
      exact this
  · obtain ⟨g, cap, rfl, _, _⟩ := h.form (by omega)
    have := run_convert_bytes_arg (P := Tryd.prog) w 22 5 Tryd.underlying22 Tryd.underlying5 g 0 n cap (xs.map fun (x : Nat) => (x : Int)) (by simp [hl]) (fun i hi => by
      have hc := h.cellAt i (by omega)
      rw [bs_get (by omega)] at hc
      rw [Nat.zero_add, hc]
      simp [List.getElem?_eq_getElem (show i < xs.length by omega)]) dst hd
    rw [this]
    have e : strOfNums (xs.map fun (x : Nat) => (x : Int)) = txt xs := by simp [strOfNums, txt, u8s]
    rw [e]

theorem info5 : (Tryd.prog.info? 5).map (fun i => (i.zero, i.size, i.bytes)) = some (some (.int .u8 0), 1, 1) := by kernel_rfl

theorem or_byte (A x V : Nat) (hA : A = V % 4294967296) (hx : x < 256) : bits .or .u32 (((A : Nat) : Int) * 256 % 4294967296) ((x : Nat) : Int) = (((V * 256 + x) % 4294967296 : Nat) : Int) := by
  have e : ((A : Nat) : Int) * 256 % 4294967296 = ((A * 256 % 4294967296 : Nat) : Int) := by omega
  rw [e, u32_or_nat _ _ (by omega) (by omega)]
  have e2 : A * 256 % 4294967296 = 2 ^ 8 * (A % 16777216) := by omega
  rw [e2, ← Nat.two_pow_add_eq_or_of_lt (by omega : x < 2 ^ 8)]
  congr 1
  omega
theorem and_31 (V b d : Nat) (hb : b ≤ 7) (hd : d = V / 2 ^ b % 32) : bits .and .u32 (((V : Nat) : Int) % 4294967296 / 2 ^ b) 31 = ((d : Nat) : Int) := by
  have e : ((V : Nat) : Int) % 4294967296 / 2 ^ b = ((V % 4294967296 / 2 ^ b : Nat) : Int) := by simp
  have hlt : V % 4294967296 / 2 ^ b < 4294967296 := Nat.lt_of_le_of_lt (Nat.div_le_self _ _) (by omega)
  rw [e, show (31 : Int) = ((31 : Nat) : Int) from rfl, u32_and_nat _ _ hlt (by omega)]
  rw [show (31 : Nat) = 2 ^ 5 - 1 from rfl, Nat.and_two_pow_sub_one_eq_mod, low_bits V b 5 (by omega), hd]
def DIG : ByteArray := ⟨#[48, 49, 50, 51, 52, 53, 54, 55, 56, 57, 97, 98, 99, 100, 101, 102, 103, 104, 105, 106, 107, 108, 109, 110, 111, 112, 113, 114, 115, 116, 117, 118]⟩
theorem DIG_size : DIG.size = 32 := by decide
theorem DIG_at : ∀ d : Fin 32, (DIG[d.val]'(by rw [DIG_size]; exact d.isLt)).toNat = chr d.val := by decide
theorem digit_at (d : Nat) (h : d < 32) : ∀ w, (Instr.index 9 (.string ⟨#[48, 49, 50, 51, 52, 53, 54, 55, 56, 57, 97, 98, 99, 100, 101, 102, 103, 104, 105, 106, 107, 108, 109, 110, 111, 112, 113, 114, 115, 116, 117, 118]⟩) (.int .u32 ((d : Nat) : Int))).run Tryd.prog w = .ok (.int .u8 ((chr d : Nat) : Int)) w := by
  intro w
  have hs := DIG_size
  have := run_index_string (P := Tryd.prog) w 9 DIG .u32 (d : Int) Tryd.underlying9
  rw [dif_pos ⟨by omega, by rw [hs]; omega⟩] at this
  have e2 := DIG_at ⟨d, h⟩
  simp only [Int.toNat_natCast] at this
  rw [← e2]
  exact this
theorem getD_lt {xs : List Nat} {B k : Nat} (h : ∀ x ∈ xs, x < B) (hk : k < xs.length) : xs.getD k 0 < B := by
  rw [List.getD_eq_getElem?_getD, List.getElem?_eq_getElem hk]; exact h _ (List.getElem_mem hk)
theorem val_take {xs : List Nat} {B k : Nat} (hk : k < xs.length) : val B (xs.take (k + 1)) = val B (xs.take k) * B + xs.getD k 0 := by
  rw [List.take_succ_eq_append_getElem hk, val_snoc, List.getD_eq_getElem?_getD, List.getElem?_eq_getElem hk]; rfl

set_option maxRecDepth 100000 in
set_option maxHeartbeats 400000 in
theorem encode (w : World) (b o n c : Nat) (xs : List Nat) (hn : xs.length = n) (hlen : n ≤ 1000) (h : Bytes w b o xs) (hb : b < w.heap.size) (bx : ∀ x ∈ xs, x < 256) :
    Calls Tryd.prog 24 #[.slice (some ⟨b, o, none⟩) n c] w fun e w' => e = .returned (.string (txt ((digs 32 (8 * n / 5) (val 256 xs / 2 ^ (8 * n % 5))).map chr))) ∧ Below w.heap.size w w' := by
  have HN := Lib.hid hn
  have HX := Lib.hid h
  have HBX := Lib.hid bx
  clear hn h bx
  obtain ⟨i5, hi, hz0, hz1, hz2⟩ := info_parts info5
  go_enter Tryd.func24, Tryd.ntmps24
  go_wp2_with (first
    | (at_make; refine wpList_make_own _ rfl _ _ 22 rfl w.heap.size 5 i5 (.int .u8 0) 1 Tryd.underlying22 hi hz0 hz1 .i64 .i64 32 32 rfl rfl rfl (by rw [hz2]; omega) (by unfold maxLen; omega) (Nat.le_refl _) ?_; intro w1 hown hg1))
  go_loopw [3, 4, 5, 11] (fun v acc bits i wr => ∃ k m r : Nat, k ≤ n ∧ r < 5 ∧ 8 * k = 5 * m + r ∧ i = .int .i64 k ∧ acc = .int .u32 ((val 256 (xs.take k) % 4294967296 : Nat) : Int) ∧ bits = .int .i64 r ∧
    wr.ownsRow w.heap.size 5 1 v m (bs ((digs 32 m (val 256 (xs.take k) / 2 ^ r)).map chr)) ∧ Below w.heap.size w wr) (fun _ _ _ i _ => n - (intOf i).toNat)
  case atStart =>
    exact ⟨0, 0, 0, by omega, by omega, by omega, rfl, rfl, rfl, by simpa [digs, bs] using hown, (Below.refl _ _).grown hg1 (Nat.le_refl _) (fun j hj => by cases hj)⟩
  case round =>
    obtain ⟨k, m, r, hk, hr, hkm, rfl, rfl, rfl, hown, hbel⟩ := hrel
    obtain ⟨A, hA⟩ : ∃ A, A = val 256 (xs.take k) % 4294967296 := ⟨_, rfl⟩
    rw [← hA]
    have hAl : A < 4294967296 := by omega
    have HA := Lib.hid hA
    have HKM := Lib.hid hkm
    clear hA hkm
    by_cases hlt : k < n
    · obtain ⟨x, hx⟩ : ∃ x, x = xs.getD k 0 := ⟨_, rfl⟩
      have gx : wr.cell? ⟨b, o + k, none⟩ = some (.int .u8 (x : Int)) := by rw [hx]; exact (hbel.cell (p := ⟨b, o + k, none⟩) hb).trans (HX.out k (by rw [HN.out]; exact hlt))
      have hx256 : x < 256 := by rw [hx]; exact getD_lt HBX.out (by rw [HN.out]; exact hlt)
      obtain ⟨V, hV⟩ : ∃ V, V = val 256 (xs.take (k + 1)) := ⟨_, rfl⟩
      have hV1 : V = val 256 (xs.take k) * 256 + x := by rw [hV, hx, val_take (by rw [HN.out]; exact hlt)]
      have hE := or_byte A x (val 256 (xs.take k)) HA.out hx256
      rw [← hV1] at hE
      have HV := Lib.hid hV
      have HV1 := Lib.hid hV1
      clear hx hV hV1
      obtain ⟨wo, hwo⟩ : ∃ wo : World, wr = wo := ⟨_, rfl⟩
      subst hwo
      go_wp2
      clear hE
      have HOWN := Lib.hid hown
      have HBEL := Lib.hid hbel
      clear hown hbel gx
      go_loopw [3, 5] (fun v bits wi => ∃ m r : Nat, r < 13 ∧ 8 * (k + 1) = 5 * m + r ∧ bits = .int .i64 r ∧
        wi.ownsRow w.heap.size 5 1 v m (bs ((digs 32 m (V / 2 ^ r)).map chr)) ∧ Below w.heap.size w wi) (fun _ bits _ => (intOf bits).toNat)
      case atStart =>
        refine ⟨m, r + 8, by omega, by have := HKM.out; omega, by go_num, ?_, HBEL.out⟩
        rw [HV1.out, show (256 : Nat) = 2 ^ 8 from rfl, shift_in _ _ _ _ (by omega : x < 2 ^ 8)]
        exact HOWN.out
      case round =>
        obtain ⟨m, r, hr, hkm, rfl, hown, hbel⟩ := hrel
        have HKM := Lib.hid hkm
        clear hkm
        by_cases h5 : 5 ≤ r
        · obtain ⟨d, hd⟩ : ∃ d, d = V / 2 ^ (r - 5) % 32 := ⟨_, rfl⟩
          have hd32 : d < 32 := by rw [hd]; omega
          have hand := and_31 V (r - 5) d (by omega) hd
          have hix := digit_at d hd32
          have HD := Lib.hid hd
          have hml : m ≤ 1608 := by have := HKM.out; omega
          have hws := hbel.size
          clear hd
          go_wp2_with (first
            | (at_builtin; refine wpList_append_own _ rfl _ _ 22 rfl w.heap.size 5 i5 (.int .u8 0) 1 1 Tryd.underlying22 hi hz0 hz1 hz2 rfl (by decide) _ _ _ rfl (hown.alloc _) ⟨wr.heap.size, 0, none⟩ 1 1 [.int .u8 ((chr d : Nat) : Int)] rfl rfl (cell_one_new _ _ _) (by simp [Value.oneCell']) (by unfold maxLen; omega) (by omega) (by simp; omega) ?_; intro v' w2 hown' hgrow _))
          go_roundw
          case rel =>
            refine ⟨m + 1, r - 5, by omega, by have := HKM.out; omega, by go_num, ?_, ?_⟩
            · have e := digs_more 5 m (r - 5) V
              rw [show r - 5 + 5 = r by omega] at e
              rw [show (32 : Nat) = 2 ^ 5 from rfl, ← e, List.map_append, bs_append]
              rw [show V / 2 ^ (r - 5) % 2 ^ 5 = d from HD.out.symm]
              exact hown'
            · exact (hbel.alloc hws _).grown hgrow (by simp; omega) (fun j hj => (hown.lt j hj).1)
          case measure => simp [intOf]; omega
        · go_wp2
          go_roundw
          case rel =>
            exact ⟨k + 1, m, r, by omega, by omega, HKM.out, by go_num, by rw [← HV.out]; exact congrArg (Value.int .u32) (by omega), rfl, by rw [← HV.out]; exact hown, hbel⟩
          case measure => simp [intOf]; omega
    · have hkn : k = n := by omega
      have hconv := run_string_own hown
      go_wp2
      go_ret
      refine ⟨?_, hbel⟩
      have hm := HKM.out
      have e1 : 8 * n / 5 = m := by omega
      have e2 : 8 * n % 5 = r := by omega
      rw [e1, e2, hkn, List.take_of_length_le (by rw [HN.out]; omega)]
      rfl
end Go.Proofs.YtcbpnbfkjdmfgaaDoor.Enc
