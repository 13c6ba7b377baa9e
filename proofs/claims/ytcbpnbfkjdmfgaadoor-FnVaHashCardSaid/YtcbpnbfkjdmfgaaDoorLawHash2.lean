/- The law of the hash of some bytes: its parts' contracts put in; the sizes. Condition: the round numbers lie where the program's text lays them. -/
import Derived.Test.YtcbpnbfkjdmfgaaDoorLawHash
import Derived.Test.YtcbpnbfkjdmfgaaDoorSha14
set_option linter.unusedVariables false
namespace Go.Proofs.YtcbpnbfkjdmfgaaDoor.LawHash
open Go.ChangeShapes Go.WideShapes Go.ChangeAt Go.RowKit
open Go.Proofs.YtcbpnbfkjdmfgaaDoor.Dig Go.Proofs.YtcbpnbfkjdmfgaaDoor.Mem Go.Proofs.YtcbpnbfkjdmfgaaDoor.Rb Go.Proofs.YtcbpnbfkjdmfgaaDoor.Ord Go.Proofs.YtcbpnbfkjdmfgaaDoor.Hr
open Go.Proofs.YtcbpnbfkjdmfgaaDoor.Sha (hsh hsh_length hsh_byte KG)

theorem chars_txt (l : List Nat) (h : ∀ x ∈ l, x < 256) : chars (Enc.txt l) = l := by
  unfold chars Enc.txt u8s
  simp only
  rw [List.map_map]
  conv => rhs; rw [← List.map_id l]
  exact List.map_congr_left fun x hx => by simp [UInt8.toNat_ofNat', Nat.mod_eq_of_lt (h x hx)]
theorem htext_byte (xs : List Nat) : ∀ x ∈ htext xs, x < 256 := fun x hx => by
  obtain ⟨d, hd, rfl⟩ := List.mem_map.1 hx
  have := digs_lt (B := 32) (by omega) _ _ d hd
  have := chr_lt d this
  omega
theorem isDig_chr (d : Nat) (h : d < 32) : isDig (chr d) = true := by
  unfold isDig chr
  split <;> simp <;> omega
theorem unchr_chr (d : Nat) (h : d < 32) : unchr (chr d) = d := by
  unfold unchr chr
  split <;> split <;> omega
theorem good_htext (xs : List Nat) : good (htext xs) = true := by
  simp only [good, Bool.and_eq_true, decide_eq_true_eq, List.all_eq_true]
  refine ⟨HText.htext_length xs, fun x hx => ?_⟩
  obtain ⟨d, hd, rfl⟩ := List.mem_map.1 hx
  exact isDig_chr d (digs_lt (by omega) _ _ d hd)
theorem got_htext (xs : List Nat) (hx : xs.length = 20) (bx : ∀ x ∈ xs, x < 256) : got (htext xs) = xs := by
  unfold got
  rw [if_pos (good_htext xs)]
  have e : (htext xs).map unchr = digs 32 32 (val 256 xs) := by
    unfold htext
    rw [List.map_map]
    conv => rhs; rw [← List.map_id (digs 32 32 (val 256 xs))]
    exact List.map_congr_left fun d hd => unchr_chr d (digs_lt (by omega) _ _ d hd)
  have hv := val_lt bx
  rw [hx] at hv
  rw [e, val_digs, Nat.mod_eq_of_lt (by rw [show (32 : Nat) ^ 32 = 256 ^ 20 by decide]; exact hv), digs_val 20 xs hx bx]
theorem rb_of_arr {w : World} {b : Nat} {xs : List Nat} {t : TypeId} (h : w.heap[b]? = some (.cells (Arr .u8 xs) t (0, 0))) (hl : xs.length = 20) (bx : ∀ x ∈ xs, x < 256) : RB w (some ⟨b, 0, none⟩) 20 20 xs :=
  ⟨hl, Nat.le_refl _, by unfold maxLen; omega, bx, fun _ => ⟨b, 0, rfl, bytes_arr h⟩⟩

theorem walk (w : World) (a : Option Addr) (n c : Nat) (p : List Nat) (hx : RB w a n c p) (hnc : a = none → c = 0) (K : KG w) :
    Calls Tryd.prog 3 #[.slice a n c] w fun e w' => e = .returned (.bool true) ∧ Below w.heap.size w w' := by
  by_cases h4 : n ≤ 4000
  · have hl := hsh_length p
    have hb := hsh_byte p
    have hi := (isTxt (Enc.txt (htext (hsh p)))).1
    rw [chars_txt _ (htext_byte _)] at hi
    have hg := good_htext (hsh p)
    have hgot := got_htext (hsh p) hl hb
    refine main w a n c hx.le hx.top h4 (Arr .u8 (hsh p)) (Enc.txt (htext (hsh p))) (Lib.hid (size22 hl)) (Lib.hid (by rw [Arr_size, hl]; rfl)) (Lib.hid (one_cells _)) (eq_arr _ hl hb)
      (Lib.hid fun w' hbel => Sha.implHashOf w' a c n p (hx.below hbel (Nat.le_refl _)) (K.below hbel K.1) h4)
      (Lib.hid fun w' hbel => Sha.specHashOf w' a c n p (hx.below hbel (Nat.le_refl _)) hnc h4)
      (Lib.hid fun w' => implText w' _ hl hb) (Lib.hid fun w' => HText.specText w' _ hl hb)
      (Lib.hid fun w' => ?_) (Lib.hid fun w' => ?_) (Lib.hid fun w' b hrow => ?_) (Lib.hid fun w' => ?_)
    · have := implRead w' _ _ hi
      rwa [hg, hgot] at this
    · have := implParse w' _ _ hi
      rwa [hg, hgot] at this
    · have := implNew w' _ 20 20 (hsh p) (rb_of_arr hrow hl hb)
      have hm : made (hsh p) = hsh p := by unfold made; rw [if_pos hl]
      rwa [hm, decide_eq_true hl] at this
    · have := implValid w' _ _ hi
      rw [hg] at this
      exact this.mono fun e w'' ⟨he, hw⟩ => ⟨he, by subst hw; exact Below.refl _ _⟩
  · have hct := hx.top
    have hnc' := hx.le
    unfold maxLen at hct
    clear hx
    by_cases g1 : 2147483647 < n
    · have g1' : (2147483647 : Int) < (n : Int) := by omega
      go_enter Tryd.func3, Tryd.ntmps3
      go_wp2_with fail
      go_ret
      exact ⟨rfl, by go_grown⟩
    · have g1' : ¬ (2147483647 : Int) < (n : Int) := by omega
      have g2' : (4000 : Int) < (n : Int) := by omega
      go_enter Tryd.func3, Tryd.ntmps3
      go_wp2_with fail
      go_ret
      exact ⟨rfl, by go_grown⟩
end Go.Proofs.YtcbpnbfkjdmfgaaDoor.LawHash
