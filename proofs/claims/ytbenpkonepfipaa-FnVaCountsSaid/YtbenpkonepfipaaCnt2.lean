/- The numbers of subtrees as bytes: the specification's, walked. Condition: at most 300 numbers. -/
import Derived.Test.YtbenpkonepfipaaCnt
import Derived.Laws.AppendOwnNone
set_option linter.unusedVariables false
namespace Go.Proofs.Ytbenpkonepfipaa.Cnt
open Go.ChangeShapes Go.WideShapes Go.ChangeAt Go.RowKit
open Go.Proofs.Ytbenpkonepfipaa.Dig Go.Proofs.Ytbenpkonepfipaa.Mem Go.Proofs.Ytbenpkonepfipaa.Rb Go.Proofs.Ytbenpkonepfipaa.Var

section
variable {ops : Array Oper} {rest : List Oper} {o : Oper} {a : Act} {Q : Exit → Act → World → Prop} {w w0 : World}
set_option maxRecDepth 100000 in
/-- Bytes appended to a row of the call's own, whatever they are. -/
theorem append_rb {B n : Nat} {v : Value} {xs ys : List Nat} (hown : Hid (w.ownsRow B 5 1 v n (bs xs))) (hbel : Hid (Below B w0 w)) (hgd : o.guard = none) (s x : Operand) (ho : o.op = .call { callee := .builtin .append, args := #[s, x], argTypes := #[27, 27] })
    (hs : a.eval s = v) (sp : Option Addr) (m c : Nat) (hx : a.eval x = .slice sp m c) (hr : RB w sp m c ys) (hnc : sp = none → c = 0) (hb : n + m ≤ 1000000) (hB : B ≤ w.heap.size)
    (h : ∀ v' w', Hid (w'.ownsRow B 5 1 v' (n + m) (bs (xs ++ ys))) → Hid (Below B w0 w') → wpList Try.prog ops Q rest (a.put o.dst v') w') : wpList Try.prog ops Q (o :: rest) a w := by
  obtain ⟨i5, hi, hz0, hz1, hz2⟩ := info_parts info5
  have hl := hr.len
  cases sp with
  | none =>
    have hm : m = 0 := by
      rcases Nat.eq_zero_or_pos m with h0 | h0
      · exact h0
      · obtain ⟨b, of, e, _⟩ := hr.at_ h0; cases e
    obtain rfl : ys = [] := List.length_eq_zero_iff.1 (by omega)
    have hc := hnc rfl
    subst hm hc
    refine wpList_append_own_none hgd s x 27 ho B 5 i5 1 Try.underlying27 hi v n (bs xs) hs hown.out hx ?_
    exact h v w (Lib.hid (by simpa using hown.out)) hbel
  | some ad =>
    refine wpList_append_own w hgd s x 27 ho B 5 i5 (.int .u8 0) 1 1 Try.underlying27 hi hz0 hz1 hz2 rfl (by decide) v n (bs xs) hs hown.out ad m c (bs ys) hx (by rw [bs_length, hl, Nat.mul_one]) (fun j u hj => ?_) (fun u hu => ?_) (by unfold maxLen; omega) (by omega) hB ?_
    · have hj' : j < ys.length := by
        have := (List.getElem?_eq_some_iff.1 hj).1
        rwa [bs_length] at this
      rw [bs_get hj'] at hj
      obtain ⟨b, of, e, hcell⟩ := hr.at_ (by omega)
      injection e with e
      subst e
      have := hcell j hj'
      unfold Addr.add
      by_cases h00 : j = 0
      · subst h00; simpa using this.trans hj
      · simp only [if_neg h00]; exact this.trans hj
    · obtain ⟨x, _, rfl⟩ := List.mem_map.1 hu
      rfl
    · intro v' w' h1 h2 _
      refine h v' w' (Lib.hid ?_) (Lib.hid (hbel.out.grown h2 hB (fun j hj => (hown.out.lt j hj).1)))
      rw [bs_append]
      exact h1
end


theorem own_below {w w' : World} {base n : Nat} {e : TypeId} {size : Nat} {v : Value} {xs : List Value} (h : w.ownsRow base e size v n xs) (hb : Below w.heap.size w w') : w'.ownsRow base e size v n xs := by
  refine ⟨h.1, ?_⟩
  rcases h.2 with h0 | ⟨g, cap, cur, hv, hB, hh, rest⟩
  · exact Or.inl h0
  · have hlt : g < w.heap.size := by
      rcases Nat.lt_or_ge g w.heap.size with h | h
      · exact h
      · rw [Array.getElem?_eq_none h] at hh; cases hh
    exact Or.inr ⟨g, cap, cur, hv, hB, (hb.block g hlt).trans hh, rest⟩

/-- The signed difference of two numbers of 64 bits. -/
def sd (x p : Nat) : Int := IntKind.i64.wrap ((x : Int) - (p : Int))
theorem sd_i64 (x p : Nat) : I64 (sd x p) := by
  unfold sd I64
  rw [IntKind.wrap_i64]; omega
theorem sd_wrap (x p : Nat) : Go.RowKit.wrap64 (IntKind.u64.wrap ((x : Int) - (p : Int))) = sd x p := by
  unfold sd wrap64
  rw [IntKind.wrap_i64, IntKind.wrap_u64]; omega
def encs : Nat → List Nat → List Nat
  | _, [] => []
  | p, x :: xs => enc (sd x p) ++ encs x xs
def lastOf : Nat → List Nat → Nat
  | p, [] => p
  | _, x :: xs => lastOf x xs
theorem encs_snoc : ∀ (p : Nat) (xs : List Nat) (x : Nat), encs p (xs ++ [x]) = encs p xs ++ enc (sd x (lastOf p xs))
  | p, [], x => by simp [encs, lastOf]
  | p, y :: ys, x => by simp [encs, lastOf, encs_snoc y ys x]
theorem lastOf_snoc : ∀ (p : Nat) (xs : List Nat) (x : Nat), lastOf p (xs ++ [x]) = x
  | p, [], x => rfl
  | p, y :: ys, x => by simp [lastOf, lastOf_snoc y ys x]
theorem encs_length : ∀ (p : Nat) (xs : List Nat), (encs p xs).length ≤ 10 * xs.length
  | p, [] => by simp [encs]
  | p, y :: ys => by
    have := encs_length y ys
    have := uv_le 9 (zz (sd y p))
    simp only [encs, enc, List.length_append, List.length_cons]; omega
theorem encs_byte : ∀ (p : Nat) (xs : List Nat), ∀ b ∈ encs p xs, b < 256
  | p, [] => by simp [encs]
  | p, y :: ys => by
    intro b hb
    simp only [encs, List.mem_append] at hb
    rcases hb with h | h
    · exact uv_byte 9 _ b h
    · exact encs_byte y ys b h
theorem own_form {w : World} {base n : Nat} {e : TypeId} {v : Value} {xs : List Value} (h : w.ownsRow base e 1 v n xs) : ∃ a c, v = .slice a n c := by
  rcases h.2 with ⟨h0, hn⟩ | ⟨g, cap, cur, hv, _⟩
  · exact ⟨none, 0, by rw [h0]; simp_all⟩
  · exact ⟨_, _, hv⟩
theorem lastOf_lt : ∀ (p : Nat) (xs : List Nat), p < 18446744073709551616 → (∀ x ∈ xs, x < 18446744073709551616) → lastOf p xs < 18446744073709551616
  | p, [], h, _ => h
  | p, y :: ys, _, h => lastOf_lt y ys (h y (List.mem_cons_self ..)) (fun x hx => h x (List.mem_cons_of_mem _ hx))
theorem take_more {cs : List Nat} {k : Nat} (h : k < cs.length) : cs.take (k + 1) = cs.take k ++ [cs.getD k 0] := by
  rw [List.take_succ_eq_append_getElem h, List.getD_eq_getElem?_getD, List.getElem?_eq_getElem h]; rfl
def Nums64 (w : World) (a : Option Addr) (cs : List Nat) : Prop := 0 < cs.length → ∃ b o, a = some ⟨b, o, none⟩ ∧ b < w.heap.size ∧ ∀ i, i < cs.length → w.cell? ⟨b, o + i, none⟩ = some (.int .u64 ((cs.getD i 0 : Nat) : Int))

set_option maxRecDepth 100000 in
set_option maxHeartbeats 1000000 in
theorem countsOf (w : World) (a : Option Addr) (n c : Nat) (ls : List Nat) (hl : ls.length = n) (hn : n ≤ 300) (hb : ∀ x ∈ ls, x < 18446744073709551616) (hc : Nums64 w a ls) :
    Calls Try.prog 24 #[.slice a n c] w fun e w' => ∃ a' n' c', e = .returned (.slice a' n' c') ∧ RB w' a' n' c' (encs 0 ls) ∧ Below w.heap.size w w' := by
  have HL := Lib.hid hl
  have HB := Lib.hid hb
  have HC := Lib.hid hc
  clear hl hb hc
  go_enter Try.func24, Try.ntmps24
  go_wp2_with fail
  go_loopw [3, 4, 9] (fun v lv iv wr => ∃ k p m : Nat, k ≤ n ∧ iv = .int .i64 k ∧ lv = .int .u64 (p : Int) ∧ p = lastOf 0 (ls.take k) ∧ wr.ownsRow w.heap.size 5 1 v m (bs (encs 0 (ls.take k))) ∧ Below w.heap.size w wr) (fun _ _ iv _ => n - (intOf iv).toNat)
  case atStart => exact ⟨0, 0, 0, by omega, rfl, rfl, rfl, ⟨by simp [encs, bs], Or.inl ⟨rfl, rfl⟩⟩, Below.refl _ _⟩
  case round =>
    obtain ⟨k, p, m, hk, rfl, rfl, hp, hown, hbel⟩ := hrel
    have hpl : p < 18446744073709551616 := by rw [hp]; exact lastOf_lt _ _ (by omega) (fun x hx => HB.out x (List.mem_of_mem_take hx))
    have hml : m ≤ 3000 := by
      have h1 := hown.1
      rw [bs_length] at h1
      have h2 := encs_length 0 (ls.take k)
      rw [List.length_take] at h2
      omega
    have HP := Lib.hid hp
    have HOWN := Lib.hid hown
    have HBEL := Lib.hid hbel
    have hws := hbel.size
    clear hp hown
    by_cases hlt : k < n
    · obtain ⟨b, o, ea, hb2, hcell⟩ := HC.out (by rw [HL.out]; omega)
      subst ea
      obtain ⟨x, hx⟩ : ∃ x, x = ls.getD k 0 := ⟨_, rfl⟩
      have gx : wr.cell? ⟨b, o + k, none⟩ = some (.int .u64 (x : Int)) := by rw [hx]; exact (hbel.cell (p := ⟨b, o + k, none⟩) hb2).trans (hcell k (by rw [HL.out]; exact hlt))
      have hx64 : x < 18446744073709551616 := by rw [hx]; exact getD_lt HB.out (by rw [HL.out]; exact hlt)
      have HX := Lib.hid hx
      clear hx hcell hbel
      obtain ⟨D, hD⟩ : ∃ D, D = sd x p := ⟨_, rfl⟩
      have hsd : Go.RowKit.wrap64 (IntKind.u64.wrap ((x : Int) - (p : Int))) = D := by rw [hD]; exact sd_wrap x p
      have K51 := Lib.hid fun w' => varint w' D (by rw [hD]; exact sd_i64 x p)
      have hE10 : (enc D).length ≤ 10 := uv_le 9 _
      have hE0 : 0 < (enc D).length := uv_pos 9 _
      have HD := Lib.hid hD
      clear hD
      go_wp2_with (first
        | (go_at_call 51; (with_reducible refine (K51.out _).mono ?_); rintro e w1 ⟨a1, n1, c1, rfl, hr1, hb1⟩; have hn1 := hr1.len; have R1 := Lib.hid hr1; have O1 := Lib.hid (own_below HOWN.out hb1); have B1 := Lib.hid (HBEL.out.trans (hb1.mono hws)); obtain ⟨b1, o1, ea1, _⟩ := hr1.at_ (by omega); subst ea1; clear hr1)
        | (with_reducible refine append_rb O1 B1 rfl (.tmp 13) (.tmp 18) rfl rfl _ n1 c1 rfl R1.out (by intro h; cases h) (by omega) B1.out.size ?_; intro v2 w2 O2 B2))
      go_roundw
      case rel =>
        refine ⟨k + 1, x, m + n1, by omega, by go_num, rfl, ?_, ?_, B2.out⟩
        · rw [take_more (by rw [HL.out]; exact hlt), lastOf_snoc, HX.out]
        · rw [take_more (by rw [HL.out]; exact hlt), encs_snoc, ← HP.out, ← HX.out, ← HD.out]
          exact O2.out
      case measure => simp [intOf]; omega
    · obtain rfl : k = n := by omega
      go_wp2_with fail
      have hown := HOWN.out
      rw [List.take_of_length_le (by rw [HL.out]; exact Nat.le_refl _)] at hown
      obtain ⟨av, cv, rfl⟩ := own_form hown
      go_ret
      refine ⟨_, _, _, rfl, RB.of_own hown (encs_byte _ _), HBEL.out⟩
end Go.Proofs.Ytbenpkonepfipaa.Cnt
