/- Plain facts on where the fields of a tuple begin. No condition. -/
import Derived.Test.YtgogeonbamheoaaTup5
set_option linter.unusedVariables false
namespace Go.Proofs.Ytgogeonbamheoaa.Tup
open Go.Proofs.Ytgogeonbamheoaa.Dig Go.Proofs.Ytgogeonbamheoaa.Mem Go.Proofs.Ytgogeonbamheoaa.Rb

theorem ofk_length (fs : List Fld) : ∀ k, (ofk fs k).length = 2 * (k - 1)
  | 0 => rfl
  | k + 1 => by
    simp only [ofk, List.length_append, ofk_length fs k]
    split
    · subst_vars; rfl
    · simp only [pr, List.length_cons, List.length_nil]; omega
theorem ofk_get (fs : List Fld) : ∀ k j, j + 1 < k → (ofk fs k)[2 * j]? = some (total (fs.take (j + 1)) % 256) ∧ (ofk fs k)[2 * j + 1]? = some (total (fs.take (j + 1)) / 256)
  | 0, j, h => by omega
  | k + 1, j, h => by
    simp only [ofk]
    have hl := ofk_length fs k
    rw [if_neg (by omega)]
    rcases Nat.lt_or_ge (j + 1) k with h1 | h1
    · obtain ⟨i1, i2⟩ := ofk_get fs k j h1
      rw [List.getElem?_append_left (by omega), List.getElem?_append_left (by omega)]
      exact ⟨i1, i2⟩
    · obtain rfl : k = j + 1 := by omega
      rw [List.getElem?_append_right (by omega), List.getElem?_append_right (by omega), hl]
      rw [show 2 * j - 2 * (j + 1 - 1) = 0 by omega, show 2 * j + 1 - 2 * (j + 1 - 1) = 1 by omega]
      exact ⟨rfl, rfl⟩
/-- Where field j + 1 begins, as it is read. -/
theorem ofk_off (fs : List Fld) (k j : Nat) (h : j + 1 < k) : (ofk fs k).getD (2 * j) 0 + 256 * (ofk fs k).getD (2 * j + 1) 0 = total (fs.take (j + 1)) := by
  obtain ⟨h1, h2⟩ := ofk_get fs k j h
  rw [List.getD_eq_getElem?_getD, List.getD_eq_getElem?_getD, h1, h2]
  simp only [Option.getD_some]
  omega
/-- The bytes of field i among all. -/
theorem cat_part : ∀ (fs : List Fld), (∀ f ∈ fs, f.xs.length = f.n) → ∀ i, i < fs.length → ((cat fs).drop (total (fs.take i))).take (fs.getD i nof).n = (fs.getD i nof).xs
  | [], _, i, h => by simp at h
  | f :: fs, hl, 0, _ => by
    have := hl f (List.mem_cons_self ..)
    simp [cat, total, ← this]
  | f :: fs, hl, i + 1, h => by
    have h0 := hl f (List.mem_cons_self ..)
    have := cat_part fs (fun g hg => hl g (List.mem_cons_of_mem _ hg)) i (by simpa using h)
    simp only [List.take_succ_cons, total, cat]
    have e : List.drop (f.n + total (fs.take i)) (f.xs ++ cat fs) = List.drop (total (fs.take i)) (cat fs) := by
      rw [← h0, List.drop_append, List.drop_of_length_le (by omega)]
      simp
    rw [e]
    simpa using this
theorem cat_length : ∀ (fs : List Fld), (∀ f ∈ fs, f.xs.length = f.n) → (cat fs).length = total fs
  | [], _ => rfl
  | f :: fs, h => by
    simp only [cat, total, List.length_append, h f (List.mem_cons_self ..), cat_length fs fun g hg => h g (List.mem_cons_of_mem _ hg)]
end Go.Proofs.Ytgogeonbamheoaa.Tup
