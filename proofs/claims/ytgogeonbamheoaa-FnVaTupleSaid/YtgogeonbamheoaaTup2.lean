/- Small parts of a tuple's making, walked. Conditions: the sizes stay in sixteen bits. -/
import Derived.Test.YtgogeonbamheoaaTup
set_option linter.unusedVariables false
namespace Go.Proofs.Ytgogeonbamheoaa.Tup
open Go.ChangeShapes Go.WideShapes Go.ChangeAt Go.RowKit
open Go.Proofs.Ytgogeonbamheoaa.Dig Go.Proofs.Ytgogeonbamheoaa.Mem Go.Proofs.Ytgogeonbamheoaa.Rb Go.Proofs.Ytgogeonbamheoaa.Sl Go.Proofs.Ytgogeonbamheoaa.Tri

theorem isNull (w : World) (a : Option Addr) (n c : Nat) :
    Calls Try.prog 33 #[.slice a n c] w fun e w' => e = .returned (.bool (a.isNone)) ∧ w = w' := by
  have hnil : ∀ w, (binOp .eql 22 (.slice a n c) (.slice none 0 0)).run Try.prog w = .ok (.bool a.isNone) w := fun w => by
    have := run_equal_slice_nil (P := Try.prog) w 22 5 a n c Try.underlying22
    simp [binOp, this, Result.andThen]
  go_enter Try.func33, Try.ntmps33
  go_wp2
  go_ret
  exact ⟨rfl, rfl⟩
theorem sizeOf (w : World) (a : Option Addr) (n c : Nat) (hn : n ≤ 65535) :
    Calls Try.prog 34 #[.slice a n c] w fun e w' => e = .returned (.int .u16 (n : Int)) ∧ w = w' := by
  go_enter Try.func34, Try.ntmps34
  go_wp2
  go_ret
  exact ⟨rfl, rfl⟩
/-- How many bytes the offsets take. -/
def offs (n : Nat) : Nat := 2 * (n - 1)
theorem offsetsSize (w : World) (n : Nat) (hn : n ≤ 200) :
    Calls Try.prog 40 #[.int .i64 (n : Int)] w fun e w' => e = .returned (.int .u16 ((offs n : Nat) : Int)) ∧ w = w' := by
  by_cases h0 : n = 0
  · subst h0
    go_enter Try.func40, Try.ntmps40
    go_wp2
    go_ret
    exact ⟨rfl, rfl⟩
  · have h0' : ¬ ((n : Int) = 0) := by omega
    obtain ⟨m, hm⟩ : ∃ m, m = offs n := ⟨_, rfl⟩
    have hs : ((n : Int) - 1) * 2 = (m : Int) := by rw [hm]; unfold offs; omega
    have hmb : m ≤ 400 := by rw [hm]; unfold offs; omega
    rw [← hm]
    clear hm
    go_enter Try.func40, Try.ntmps40
    go_wp2
    go_ret
    exact ⟨rfl, rfl⟩
theorem pair16 (w : World) (n : Nat) (hn : n ≤ 65535) :
    Calls Try.prog 30 #[.int .i64 (n : Int)] w fun e w' => e = .returned (.slice (some ⟨w.heap.size, 0, none⟩) 2 2) ∧ w' = w.alloc (.cells (bs [n % 256, n / 256]).toArray 5) := by
  obtain ⟨p, hp⟩ : ∃ p, p = n % 256 := ⟨_, rfl⟩
  obtain ⟨q, hq⟩ : ∃ q, q = n / 256 := ⟨_, rfl⟩
  have h1 : (n : Int) % 256 = (p : Int) := by omega
  have h2 : (n : Int) / 256 = (q : Int) := by omega
  have hq2 : q < 256 := by omega
  rw [← hp, ← hq]
  clear hp hq
  go_enter Try.func30, Try.ntmps30
  go_wp2
  go_ret
  exact ⟨rfl, rfl⟩

section
variable {ops : Array Oper} {rest : List Oper} {o : Oper} {a : Act} {Q : Exit → Act → World → Prop} {w w0 : World}
/-- Bytes appended to a row of the call's own, and what else stays. -/
theorem append_rb2 {B n : Nat} {v : Value} {xs ys : List Nat} (hown : Hid (w.ownsRow B 5 1 v n (bs xs))) (hbel : Hid (Below B w0 w)) (hgd : o.guard = none) (s x : Operand) (ho : o.op = .call { callee := .builtin .append, args := #[s, x], argTypes := #[22, 22] })
    (hs : a.eval s = v) (sp : Option Addr) (m c : Nat) (hx : a.eval x = .slice sp m c) (hr : RB w sp m c ys) (hnc : sp = none → c = 0) (hb : n + m ≤ 1000000) (hB : B ≤ w.heap.size)
    (h : ∀ v' w', Hid (w'.ownsRow B 5 1 v' (n + m) (bs (xs ++ ys))) → Hid (Below B w0 w') → Hid (w.grownBy w' v.ownBlock ∨ w' = w) → Hid (v'.ownBlock = v.ownBlock ∨ v'.ownBlock = some w.heap.size) → wpList Try.prog ops Q rest (a.put o.dst v') w') : wpList Try.prog ops Q (o :: rest) a w := by
  obtain ⟨i5, hi, hz0, hz1, hz2⟩ := info_parts info5
  have hl := hr.len
  cases sp with
  | none =>
    have hm : m = 0 := by
      rcases Nat.eq_zero_or_pos m with h0 | h0
      · exact h0
      · obtain ⟨b, of, e, _⟩ := hr.at_ h0; cases e
    obtain rfl : ys = [] := List.length_eq_zero_iff.1 (by omega)
    have hc := hnc rfl
    subst hm hc
    refine wpList_append_own_none hgd s x 22 ho B 5 i5 1 Try.underlying22 hi v n (bs xs) hs hown.out hx ?_
    exact h v w (Lib.hid (by simpa using hown.out)) hbel (Lib.hid (Or.inr rfl)) (Lib.hid (Or.inl rfl))
  | some ad =>
    refine wpList_append_own_at w hgd s x 22 ho B 5 i5 (.int .u8 0) 1 1 Try.underlying22 hi hz0 hz1 hz2 rfl (by decide) v n (bs xs) hs hown.out ad m c (bs ys) hx (by rw [bs_length, hl, Nat.mul_one]) (fun j u hj => ?_) (fun u hu => ?_) (by unfold maxLen; omega) (by omega) hB ?_
    · have hj' : j < ys.length := by
        have := (List.getElem?_eq_some_iff.1 hj).1
        rwa [bs_length] at this
      rw [bs_get hj'] at hj
      obtain ⟨b, of, e, hcell⟩ := hr.at_ (by omega)
      injection e with e
      subst e
      have := hcell j hj'
      unfold Addr.add
      by_cases h00 : j = 0
      · subst h00; simpa using this.trans hj
      · simp only [if_neg h00]; exact this.trans hj
    · obtain ⟨x, _, rfl⟩ := List.mem_map.1 hu
      rfl
    · intro v' w' h1 h2 _ h4
      refine h v' w' (Lib.hid ?_) (Lib.hid (hbel.out.grown h2 hB (fun j hj => (hown.out.lt j hj).1))) (Lib.hid (Or.inl h2)) (Lib.hid h4)
      rw [bs_append]
      exact h1
end
end Go.Proofs.Ytgogeonbamheoaa.Tup
