/- Plain facts: what the texts of hashes are, bit by bit. No condition. -/
import Derived.Test.YtcbpnbfkjdmfgaaDoorDig
set_option linter.unusedVariables false
namespace Go.Proofs.YtcbpnbfkjdmfgaaDoor.Dig

theorem digs_val {B : Nat} : ∀ n l, l.length = n → (∀ d ∈ l, d < B) → digs B n (val B l) = l
  | 0, l, h, _ => by
    have : l = [] := List.length_eq_zero_iff.1 h
    subst this; rfl
  | n + 1, l, h, hl => by
    have hne : l ≠ [] := by intro e; subst e; simp at h
    have e := List.dropLast_concat_getLast hne
    have h1 : l.dropLast.length = n := by simp [h]
    have hd : l.getLast hne < B := hl _ (List.getLast_mem hne)
    have hs : ∀ d ∈ l.dropLast, d < B := fun d hd => hl d (List.dropLast_subset l hd)
    have hB : 0 < B := by omega
    rw [← e, digs, val_snoc]
    rw [show (val B l.dropLast * B + l.getLast hne) / B = val B l.dropLast from by
      rw [Nat.add_comm, Nat.add_mul_div_right _ _ hB, Nat.div_eq_of_lt hd, Nat.zero_add]]
    rw [show (val B l.dropLast * B + l.getLast hne) % B = l.getLast hne from by
      rw [Nat.add_comm, Nat.add_mul_mod_self_right, Nat.mod_eq_of_lt hd]]
    rw [digs_val n _ h1 hs]

theorem shift_in (W d s b : Nat) (hd : d < 2 ^ s) : (W * 2 ^ s + d) / 2 ^ (b + s) = W / 2 ^ b := by
  rw [Nat.add_comm b s, Nat.pow_add, ← Nat.div_div_eq_div_mul, Nat.add_comm, Nat.add_mul_div_right _ _ (Nat.two_pow_pos s),
    Nat.div_eq_of_lt hd, Nat.zero_add]

theorem low_bits (W b k : Nat) (h : b + k ≤ 32) : W % 4294967296 / 2 ^ b % 2 ^ k = W / 2 ^ b % 2 ^ k := by
  have e : 4294967296 = 2 ^ b * 2 ^ (32 - b) := by rw [← Nat.pow_add, show b + (32 - b) = 32 by omega]
  rw [e, Nat.mod_mul_right_div_self]
  exact Nat.mod_mod_of_dvd _ (Nat.pow_dvd_pow 2 (by omega))

/-- One digit more: bits b + s with s bits each. -/
theorem digs_more (s m b W : Nat) : digs (2 ^ s) m (W / 2 ^ (b + s)) ++ [W / 2 ^ b % 2 ^ s] = digs (2 ^ s) (m + 1) (W / 2 ^ b) := by
  rw [digs, Nat.div_div_eq_div_mul, ← Nat.pow_add]

/-- Bit k of twenty bytes. -/
theorem bit_at (l : List Nat) (hl : l.length = 20) (hb : ∀ d ∈ l, d < 256) (k : Nat) (hk : k < 160) :
    l.getD (k / 8) 0 / 2 ^ (7 - k % 8) % 2 = val 256 l / 2 ^ (159 - k) % 2 := by
  have e := digs_val 20 l hl hb
  have hg : l[k / 8]? = some (val 256 l / 256 ^ (20 - 1 - k / 8) % 256) := by
    rw [← digs_get 256 20 (val 256 l) (k / 8) (by omega), e]
  rw [List.getD_eq_getElem?_getD, hg]
  simp only [Option.getD_some]
  have e2 : (256 : Nat) = 2 ^ (7 - k % 8) * 2 ^ (k % 8 + 1) := by rw [← Nat.pow_add, show 7 - k % 8 + (k % 8 + 1) = 8 by omega]
  have e3 : (256 : Nat) ^ (20 - 1 - k / 8) = 2 ^ (8 * (19 - k / 8)) := by rw [Nat.pow_mul]
  have hm : ∀ n : Nat, n % 256 / 2 ^ (7 - k % 8) % 2 = n / 2 ^ (7 - k % 8) % 2 := by
    intro n
    rw [e2, Nat.mod_mul_right_div_self]
    exact Nat.mod_mod_of_dvd _ (by rw [Nat.pow_succ]; exact Nat.dvd_mul_left _ _)
  rw [hm, e3, Nat.div_div_eq_div_mul, ← Nat.pow_add]
  rw [show 8 * (19 - k / 8) + (7 - k % 8) = 159 - k by omega]

/-- A number's bits from place i on, t of them. -/
def part (V i t : Nat) : Nat := V / 2 ^ (160 - i - t) % 2 ^ t
theorem part_zero (V i : Nat) : part V i 0 = 0 := by simp [part, Nat.mod_one]
theorem part_succ (V i t : Nat) (h : i + t < 160) : part V i (t + 1) = part V i t * 2 + V / 2 ^ (159 - (i + t)) % 2 := by
  unfold part
  rw [show 160 - i - (t + 1) = 159 - (i + t) by omega, show 160 - i - t = 159 - (i + t) + 1 by omega]
  rw [Nat.pow_succ 2 (159 - (i + t)), ← Nat.div_div_eq_div_mul, Nat.pow_succ, Nat.mul_comm (2 ^ t) 2, Nat.mod_mul]
  omega
theorem part_five (V j : Nat) (h : j < 32) : (digs 32 32 V)[j]? = some (part V (5 * j) 5) := by
  rw [digs_get 32 32 V j h]
  unfold part
  rw [show (32 : Nat) ^ (32 - 1 - j) = 2 ^ (5 * (31 - j)) from by rw [Nat.pow_mul], show 5 * (31 - j) = 160 - 5 * j - 5 by omega]

/-- The digit of a sign, and back. -/
def unchr (c : Nat) : Nat := if c < 97 then c - 48 else c - 87
def isDig (c : Nat) : Bool := (decide (48 ≤ c) && decide (c ≤ 57)) || (decide (97 ≤ c) && decide (c ≤ 118))
theorem unchr_lt {c : Nat} (h : isDig c = true) : unchr c < 32 := by
  simp [isDig] at h; unfold unchr; split <;> omega
theorem chr_unchr {c : Nat} (h : isDig c = true) : chr (unchr c) = c := by
  simp [isDig] at h; unfold unchr chr; split <;> split <;> omega

/-- Twenty bytes of the 32 digits of a text, and its digits again. -/
theorem text_back {l : List Nat} (hl : l.length = 32) (hd : ∀ c ∈ l, isDig c = true) :
    (digs 32 32 (val 256 (digs 256 20 (val 32 (l.map unchr))))).map chr = l := by
  have hlt : ∀ d ∈ l.map unchr, d < 32 := by
    intro d h
    obtain ⟨c, hc, rfl⟩ := List.mem_map.1 h
    exact unchr_lt (hd c hc)
  have h1 := val_lt hlt
  rw [List.length_map, hl] at h1
  rw [val_digs, Nat.mod_eq_of_lt (by rw [show (256 : Nat) ^ 20 = 32 ^ 32 by decide]; exact h1), digs_val 32 _ (by simp [hl]) hlt, List.map_map]
  conv => rhs; rw [← List.map_id l]
  exact List.map_congr_left fun c hc => chr_unchr (hd c hc)

/-- A bit more of a number whose later bits are nought, among its twenty bytes. -/
theorem set_bit (N b t : Nat) (ht : t < 160) (hb : b < 2) (h0 : N % 2 ^ (160 - t) = 0) :
    digs 256 20 (N + b * 2 ^ (159 - t)) = (digs 256 20 N).set (t / 8) ((digs 256 20 N).getD (t / 8) 0 + b * 2 ^ (7 - t % 8)) := by
  have hN : N = N / 2 ^ (160 - t) * 2 ^ (160 - t) := by have := Nat.div_add_mod N (2 ^ (160 - t)); rw [Nat.mul_comm] at this; omega
  apply List.ext_getElem?
  intro j
  by_cases hj : j < 20
  · rw [digs_get 256 20 _ j hj]
    have e3 : (256 : Nat) ^ (20 - 1 - j) = 2 ^ (8 * (19 - j)) := by rw [Nat.pow_mul]
    rw [e3]
    by_cases hjt : j = t / 8
    · subst hjt
      rw [List.getElem?_set_self (by rw [digs_length]; exact hj), List.getD_eq_getElem?_getD, digs_get 256 20 _ _ hj, e3]
      simp only [Option.getD_some, Option.some.injEq]
      have e4 : 2 ^ (159 - t) = 2 ^ (7 - t % 8) * 2 ^ (8 * (19 - t / 8)) := by rw [← Nat.pow_add]; congr 1; omega
      rw [e4, ← Nat.mul_assoc, Nat.add_mul_div_right _ _ (Nat.two_pow_pos _)]
      have e5 : 2 ^ (160 - t) = 2 ^ (8 - t % 8) * 2 ^ (8 * (19 - t / 8)) := by rw [← Nat.pow_add]; congr 1; omega
      have e6 : N / 2 ^ (8 * (19 - t / 8)) = N / 2 ^ (160 - t) * 2 ^ (8 - t % 8) := by
        conv => lhs; rw [hN, e5, ← Nat.mul_assoc]
        rw [Nat.mul_div_cancel _ (Nat.two_pow_pos _), ← e5]
      rw [e6]
      have e7 : 2 ^ (8 - t % 8) = 2 ^ (7 - t % 8) * 2 := by rw [← Nat.pow_succ]; congr 1; omega
      have e8 : (256 : Nat) = 2 ^ (8 - t % 8) * 2 ^ (t % 8) := by rw [← Nat.pow_add, show 8 - t % 8 + t % 8 = 8 by omega]
      have hlt : b * 2 ^ (7 - t % 8) < 2 ^ (8 - t % 8) := by
        rw [e7, Nat.mul_comm]; exact Nat.mul_lt_mul_of_pos_left hb (Nat.two_pow_pos _)
      generalize N / 2 ^ (160 - t) = Q at *
      generalize b * 2 ^ (7 - t % 8) = x at *
      rw [e8, Nat.mod_mul, Nat.mod_mul]
      rw [Nat.mul_mod_left, Nat.mul_div_cancel _ (Nat.two_pow_pos _), Nat.add_comm (Q * _) x, Nat.add_mul_mod_self_right, Nat.add_mul_div_right _ _ (Nat.two_pow_pos _),
        Nat.mod_eq_of_lt hlt, Nat.div_eq_of_lt hlt, Nat.zero_add, Nat.zero_add]
      omega
    · rw [List.getElem?_set_ne (Ne.symm hjt), digs_get 256 20 _ j hj, e3]
      congr 1
      by_cases hlt : j < t / 8
      · -- above: nothing is carried
        have e9 : 2 ^ (8 * (19 - j)) = 2 ^ (160 - t) * 2 ^ (8 * (19 - j) - (160 - t)) := by rw [← Nat.pow_add]; congr 1; omega
        rw [e9, ← Nat.div_div_eq_div_mul, ← Nat.div_div_eq_div_mul]
        have : (N + b * 2 ^ (159 - t)) / 2 ^ (160 - t) = N / 2 ^ (160 - t) := by
          conv => lhs; rw [hN]
          rw [Nat.add_comm, Nat.add_mul_div_right _ _ (Nat.two_pow_pos _)]
          have e10 : 2 ^ (160 - t) = 2 ^ (159 - t) * 2 := by rw [← Nat.pow_succ]; congr 1; omega
          rw [Nat.div_eq_of_lt (by rw [e10, Nat.mul_comm]; exact Nat.mul_lt_mul_of_pos_left hb (Nat.two_pow_pos _)), Nat.zero_add]
        rw [this]
      · -- below: a multiple of 256
        have e11 : 2 ^ (159 - t) = 256 * 2 ^ (159 - t - 8 * (19 - j) - 8) * 2 ^ (8 * (19 - j)) := by
          rw [show (256 : Nat) = 2 ^ 8 by decide, ← Nat.pow_add, ← Nat.pow_add]; congr 1; omega
        rw [e11, ← Nat.mul_assoc, Nat.add_mul_div_right _ _ (Nat.two_pow_pos _), Nat.mul_left_comm, Nat.add_mul_mod_self_left]
  · rw [List.getElem?_eq_none (by rw [digs_length]; omega), List.getElem?_eq_none (by rw [List.length_set, digs_length]; omega)]

end Go.Proofs.YtcbpnbfkjdmfgaaDoor.Dig
