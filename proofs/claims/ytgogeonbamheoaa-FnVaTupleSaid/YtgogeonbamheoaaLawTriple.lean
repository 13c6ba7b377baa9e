/- The law of a triple, walked. No condition. -/
import Derived.Test.YtgogeonbamheoaaNew4b
import Derived.Laws.AppendOwnNone
set_option linter.unusedVariables false
namespace Go.Proofs.Ytgogeonbamheoaa.Tri
open Go.ChangeShapes Go.WideShapes Go.ChangeAt Go.RowKit
open Go.Proofs.Ytgogeonbamheoaa.Dig Go.Proofs.Ytgogeonbamheoaa.Mem Go.Proofs.Ytgogeonbamheoaa.Rb Go.Proofs.Ytgogeonbamheoaa.Sl

theorem RB.head {w : World} {a : Option Addr} {N n c : Nat} {xs : List Nat} (h : RB w a N c xs) (hn : n ≤ N) : RB w a n c (xs.take n) := by
  have hl := h.len
  have hc := h.le
  refine ⟨by rw [List.length_take]; omega, by omega, h.top, fun x hx => h.byte x (List.mem_of_mem_take hx), fun h0 => ?_⟩
  obtain ⟨b, o, e, hb⟩ := h.at_ (by omega)
  refine ⟨b, o, e, fun i hi => ?_⟩
  rw [List.length_take] at hi
  rw [hb i (by omega)]
  simp only [List.getD_eq_getElem?_getD, List.getElem?_take_of_lt (show i < n by omega)]

section
variable {ops : Array Oper} {rest : List Oper} {o : Oper} {a : Act} {Q : Exit → Act → World → Prop} {w w0 : World}
/-- Bytes appended to a row of the call's own, whatever they are. -/
theorem append_rb {B n : Nat} {v : Value} {xs ys : List Nat} (hown : Hid (w.ownsRow B 5 1 v n (bs xs))) (hbel : Hid (Below B w0 w)) (hgd : o.guard = none) (s x : Operand) (ho : o.op = .call { callee := .builtin .append, args := #[s, x], argTypes := #[22, 22] })
    (hs : a.eval s = v) (sp : Option Addr) (m c : Nat) (hx : a.eval x = .slice sp m c) (hr : RB w sp m c ys) (hnc : sp = none → c = 0) (hb : n + m ≤ 1000000) (hB : B ≤ w.heap.size)
    (h : ∀ v' w', Hid (w'.ownsRow B 5 1 v' (n + m) (bs (xs ++ ys))) → Hid (Below B w0 w') → wpList Try.prog ops Q rest (a.put o.dst v') w') : wpList Try.prog ops Q (o :: rest) a w := by
  obtain ⟨i5, hi, hz0, hz1, hz2⟩ := info_parts info5
  have hl := hr.len
  cases sp with
  | none =>
    have hm : m = 0 := by
      rcases Nat.eq_zero_or_pos m with h0 | h0
      · exact h0
      · obtain ⟨b, of, e, _⟩ := hr.at_ h0; cases e
    obtain rfl : ys = [] := List.length_eq_zero_iff.1 (by omega)
    have hc := hnc rfl
    subst hm hc
    refine wpList_append_own_none hgd s x 22 ho B 5 i5 1 Try.underlying22 hi v n (bs xs) hs hown.out hx ?_
    exact h v w (Lib.hid (by simpa using hown.out)) hbel
  | some ad =>
    refine wpList_append_own w hgd s x 22 ho B 5 i5 (.int .u8 0) 1 1 Try.underlying22 hi hz0 hz1 hz2 rfl (by decide) v n (bs xs) hs hown.out ad m c (bs ys) hx (by rw [bs_length, hl, Nat.mul_one]) (fun j u hj => ?_) (fun u hu => ?_) (by unfold maxLen; omega) (by omega) hB ?_
    · have hj' : j < ys.length := by
        have := (List.getElem?_eq_some_iff.1 hj).1
        rwa [bs_length] at this
      rw [bs_get hj'] at hj
      obtain ⟨b, of, e, hcell⟩ := hr.at_ (by omega)
      injection e with e
      subst e
      have := hcell j hj'
      unfold Addr.add
      by_cases h00 : j = 0
      · subst h00; simpa using this.trans hj
      · simp only [if_neg h00]; exact this.trans hj
    · obtain ⟨x, _, rfl⟩ := List.mem_map.1 hu
      rfl
    · intro v' w' h1 h2 _
      refine h v' w' (Lib.hid ?_) (Lib.hid (hbel.out.grown h2 hB (fun j hj => (hown.out.lt j hj).1)))
      rw [bs_append]
      exact h1
end

theorem tri_lists {xs ys zs tl : List Nat} {n N2 E : Nat} (h1 : xs.length = n) (h2 : n + ys.length = N2) (h3 : N2 + zs.length = E) : (xs ++ ys ++ zs ++ tl).take n = xs ∧ ((xs ++ ys ++ zs ++ tl).drop n).take (N2 - n) = ys ∧ ((xs ++ ys ++ zs ++ tl).drop N2).take (E - N2) = zs := by
  subst h1
  subst h2
  subst h3
  refine ⟨by simp, by simp, ?_⟩
  rw [List.append_assoc (xs ++ ys), List.drop_append_of_le_length (by simp), List.drop_of_length_le (by simp)]
  simp
theorem tri_at {w : World} {g E n N2 : Nat} {X : List Nat} {r s : Nat} (h : RB w (some ⟨g, 0, none⟩) (E + 4) (E + 4) (X ++ [n % 256, n / 256, N2 % 256, N2 / 256])) (hX : X.length = E) (h1 : n ≤ N2) (h2 : N2 ≤ E) : TriAt w (some ⟨g, 0, none⟩) E (E + 4) n N2 (X ++ [n % 256, n / 256, N2 % 256, N2 / 256]) := by
  subst hX
  refine ⟨h, ?_, ?_, h1, h2⟩
  · simp; omega
  · simp; omega

theorem own_form {w : World} {base n : Nat} {e : TypeId} {v : Value} {xs : List Value} (h : w.ownsRow base e 1 v n xs) : ∃ a c, v = .slice a n c := by
  rcases h.2 with ⟨h0, hn⟩ | ⟨g, cap, cur, hv, _⟩
  · exact ⟨none, 0, by rw [h0]; simp_all⟩
  · exact ⟨_, _, hv⟩
theorem rb_new4 (w : World) (p q r s : Nat) (hp : p < 256) (hq : q < 256) (hr : r < 256) (hs : s < 256) : RB (w.alloc (.cells #[.int .u8 (p : Int), .int .u8 (q : Int), .int .u8 (r : Int), .int .u8 (s : Int)] 5)) (some ⟨w.heap.size, 0, none⟩) 4 4 [p, q, r, s] := by
  refine ⟨rfl, Nat.le_refl _, by unfold maxLen; omega, ?_, fun _ => ⟨w.heap.size, 0, rfl, bytes_of (xs := [p, q, r, s]) (heap_alloc_new _ _)⟩⟩
  intro x hx
  simp only [List.mem_cons, List.not_mem_nil, or_false] at hx
  rcases hx with rfl | rfl | rfl | rfl <;> assumption

set_option maxRecDepth 100000 in
set_option maxHeartbeats 2000000 in
theorem main (w : World) (a b c : Option Addr) (n m l cn cm cl : Nat) (xs ys zs : List Nat) (hx : RB w a n cn xs) (hy : RB w b m cm ys) (hz : RB w c l cl zs) (hn : n ≤ 20000) (hm : m ≤ 20000) (hl : l ≤ 20000)
    (ha : a = none → cn = 0) (hb : b = none → cm = 0) (hc : c = none → cl = 0) :
    Calls Try.prog 3 #[.slice a n cn, .slice b m cm, .slice c l cl] w fun e w' => e = .returned (.bool true) ∧ Below w.heap.size w w' := by
  obtain ⟨N2, hN2⟩ : ∃ N2, N2 = m + n := ⟨_, rfl⟩
  obtain ⟨E, hE⟩ : ∃ E, E = l + (m + n) := ⟨_, rfl⟩
  have K5 := Lib.hid (tripleOf w a b c n m l cn cm cl xs ys zs hx hy hz hn hm hl E N2 hE hN2)
  have LX := hx.len
  have LY := hy.len
  have LZ := hz.len
  obtain ⟨TL, hTL⟩ : ∃ TL, TL = [n % 256, n / 256, N2 % 256, N2 / 256] := ⟨_, rfl⟩
  have HT := Lib.hid fun w' (h : RB w' (some ⟨0, 0, none⟩) (E + 4) (E + 4) (xs ++ ys ++ zs ++ TL)) => h
  have H1 := Lib.hid (tri_lists (tl := TL) LX (show n + ys.length = N2 by omega) (show N2 + zs.length = E by omega))
  have HXL := Lib.hid (show (xs ++ ys ++ zs).length = E by simp only [List.length_append]; omega)
  have HA := Lib.hid fun w' (hb : Below w.heap.size w w') => hx.below hb (Nat.le_refl _)
  have HB := Lib.hid fun w' (hb : Below w.heap.size w w') => hy.below hb (Nat.le_refl _)
  have HC := Lib.hid fun w' (hb : Below w.heap.size w w') => hz.below hb (Nat.le_refl _)
  have NA := Lib.hid ha
  have NB := Lib.hid hb
  have NC := Lib.hid hc
  have t1 := hx.top
  have t2 := hy.top
  have t3 := hz.top
  have t4 := hx.le
  have t5 := hy.le
  have t6 := hz.le
  unfold maxLen at t1 t2 t3
  have q1 : ¬ (2147483647 : Int) < (n : Int) := by omega
  have q2 : ¬ (2147483647 : Int) < (m : Int) := by omega
  have q3 : ¬ (2147483647 : Int) < (l : Int) := by omega
  have q4 : ¬ (20000 : Int) < (n : Int) := by omega
  have q5 : ¬ (20000 : Int) < (m : Int) := by omega
  have q6 : ¬ (20000 : Int) < (l : Int) := by omega
  have s1 : (n : Int) + (m : Int) = (N2 : Int) := by omega
  have bN : N2 ≤ 40000 := by omega
  have hnN : n ≤ N2 := by omega
  have hNE : N2 ≤ E := by omega
  have hEb : E ≤ 60000 := by omega
  obtain ⟨p1, hp1⟩ : ∃ p1, p1 = n % 256 := ⟨_, rfl⟩
  obtain ⟨p2, hp2⟩ : ∃ p2, p2 = n / 256 := ⟨_, rfl⟩
  obtain ⟨p3, hp3⟩ : ∃ p3, p3 = N2 % 256 := ⟨_, rfl⟩
  obtain ⟨p4, hp4⟩ : ∃ p4, p4 = N2 / 256 := ⟨_, rfl⟩
  have z1 : (n : Int) % 256 = (p1 : Int) := by omega
  have z2 : (n : Int) / 256 = (p2 : Int) := by omega
  have z3 : (N2 : Int) % 256 = (p3 : Int) := by omega
  have z4 : (N2 : Int) / 256 = (p4 : Int) := by omega
  have y1 : p1 < 256 := by omega
  have y2 : p2 < 256 := by omega
  have y3 : p3 < 256 := by omega
  have y4 : p4 < 256 := by omega
  have hTLp : TL = [p1, p2, p3, p4] := by rw [hTL, hp1, hp2, hp3, hp4]
  have HTLP := Lib.hid (show ([] ++ xs ++ ys ++ zs ++ [p1, p2, p3, p4] : List Nat) = xs ++ ys ++ zs ++ TL by rw [hTLp, List.nil_append])
  clear hp1 hp2 hp3 hp4 hTLp
  have HN2 := Lib.hid hN2
  have HE := Lib.hid hE
  have HTL := Lib.hid hTL
  have HLX := Lib.hid LX
  have HLY := Lib.hid LY
  have HLZ := Lib.hid LZ
  clear hx hy hz ha hb hc hE hN2 hTL LX LY LZ HT
  go_enter Try.func3, Try.ntmps3
  go_wp2_with (first
    | (go_at_call 5; (with_reducible refine K5.out.mono ?_); rintro e w1 ⟨g, rfl, hr1, hb1⟩; rw [← HTL.out] at hr1; have R1 := Lib.hid hr1; have B1 := Lib.hid hb1; clear hr1 hb1)
    | (go_at_call 6; (with_reducible refine (tripleParts w1 (some ⟨g, 0, none⟩) E (E + 4) n N2 _ (tri_at (r := 0) (s := 0) (by rw [← HTL.out]; exact R1.out) HXL.out hnN hNE)).mono ?_); rintro e w2 ⟨rfl, hb2⟩; have R2 := Lib.hid (R1.out.below hb2 (Nat.le_refl _)); have B2 := Lib.hid (B1.out.trans (hb2.mono B1.out.size)); clear hb2; have O0 : Hid ((w2.alloc (.cells #[] 5)).ownsRow w2.heap.size 5 1 (.slice (some ⟨w2.heap.size, 0, none⟩) 0 0) 0 (bs [])) := Lib.hid (World.ownsRow_lit w2 #[] 0 (Nat.le_refl _) (by unfold maxLen; omega) rfl); have L0 : Hid (Below w2.heap.size w2 (w2.alloc (.cells #[] 5))) := Lib.hid ((Below.refl _ _).alloc (Nat.le_refl _) _))
    | (with_reducible refine append_rb O0 L0 rfl (.tmp 63) (.tmp 64) rfl rfl a n cn rfl (HA.out _ (B2.out.trans (L0.out.mono B2.out.size))) NA.out (by omega) L0.out.size ?_; intro v1 w3 O1 L1)
    | (with_reducible refine append_rb O1 L1 rfl (.tmp 65) (.tmp 66) rfl rfl b m cm rfl (HB.out _ (B2.out.trans (L1.out.mono B2.out.size))) NB.out (by omega) L1.out.size ?_; intro v2 w4 O2 L2)
    | (with_reducible refine append_rb O2 L2 rfl (.tmp 67) (.tmp 68) rfl rfl c l cl rfl (HC.out _ (B2.out.trans (L2.out.mono B2.out.size))) NC.out (by omega) L2.out.size ?_; intro v3 w5 O3 L3)
    | ((with_reducible refine append_rb (ys := [p1, p2, p3, p4]) (Lib.hid (O3.out.alloc _)) (Lib.hid (L3.out.alloc L3.out.size _)) rfl (.tmp 69) (.tmp 80) rfl rfl (some ⟨w5.heap.size, 0, none⟩) 4 4 rfl (rb_new4 w5 p1 p2 p3 p4 y1 y2 y3 y4) (by intro h; cases h) (by omega) (Nat.le_trans L3.out.size (by simp)) ?_); intro v4 w6 O4 L4; obtain ⟨av, cv, ev⟩ := own_form O4.out; subst ev; have B6 := Lib.hid (B2.out.trans (L4.out.mono B2.out.size)); have RT := R2.out.below L4.out (Nat.le_refl _); have O4' := O4.out; rw [HTLP.out] at O4'; have RO0 := RB.of_own O4' RT.byte; rw [Nat.zero_add] at RO0; have RO := Lib.hid RO0; clear RO0; have RX := RB.head RT (show n ≤ E + 4 by omega); have RY := RT.cut hnN (show N2 ≤ E + 4 by omega); have RZ := RT.cut hNE (show E ≤ E + 4 by omega); rw [H1.out.1] at RX; rw [H1.out.2.1] at RY; rw [H1.out.2.2] at RZ; have RX := Lib.hid RX; have RY := Lib.hid RY; have RZ := Lib.hid RZ; have RT := Lib.hid RT; clear O4')
    | (go_at_call 7; (with_reducible refine (vaSame _ _ _ _ _ _ _ _ _ RT.out RO.out).mono ?_); rintro e w7 ⟨rfl, rfl⟩)
    | (go_at_call 7; (with_reducible refine (vaSame _ _ _ _ _ _ _ _ _ RX.out (HA.out _ B6.out)).mono ?_); rintro e w7 ⟨rfl, rfl⟩)
    | (go_at_call 7; (with_reducible refine (vaSame _ _ _ _ _ _ _ _ _ RY.out (HB.out _ B6.out)).mono ?_); rintro e w7 ⟨rfl, rfl⟩)
    | (go_at_call 7; (with_reducible refine (vaSame _ _ _ _ _ _ _ _ _ RZ.out (HC.out _ B6.out)).mono ?_); rintro e w7 ⟨rfl, rfl⟩))

  go_ret
  exact ⟨by simp, B6.out⟩

theorem walk (w : World) (a b c : Option Addr) (n m l cn cm cl : Nat) (xs ys zs : List Nat) (hx : RB w a n cn xs) (hy : RB w b m cm ys) (hz : RB w c l cl zs)
    (ha : a = none → cn = 0) (hb : b = none → cm = 0) (hc : c = none → cl = 0) :
    Calls Try.prog 3 #[.slice a n cn, .slice b m cm, .slice c l cl] w fun e w' => e = .returned (.bool true) ∧ Below w.heap.size w w' := by
  have HX := Lib.hid hx
  have HY := Lib.hid hy
  have HZ := Lib.hid hz
  have NA := Lib.hid ha
  have NB := Lib.hid hb
  have NC := Lib.hid hc
  have t1 := hx.top
  have t2 := hy.top
  have t3 := hz.top
  have t4 := hx.le
  have t5 := hy.le
  have t6 := hz.le
  unfold maxLen at t1 t2 t3
  clear hx hy hz ha hb hc
  by_cases g0 : 2147483647 < n
  · have q0 : (2147483647 : Int) < (n : Int) := by omega
    go_enter Try.func3, Try.ntmps3
    go_wp2_with fail
    go_ret
    exact ⟨rfl, by go_grown⟩
  have q0 : ¬ (2147483647 : Int) < (n : Int) := by omega
  by_cases g1 : 2147483647 < m
  · have q1 : (2147483647 : Int) < (m : Int) := by omega
    go_enter Try.func3, Try.ntmps3
    go_wp2_with fail
    go_ret
    exact ⟨rfl, by go_grown⟩
  have q1 : ¬ (2147483647 : Int) < (m : Int) := by omega
  by_cases g2 : 2147483647 < l
  · have q2 : (2147483647 : Int) < (l : Int) := by omega
    go_enter Try.func3, Try.ntmps3
    go_wp2_with fail
    go_ret
    exact ⟨rfl, by go_grown⟩
  have q2 : ¬ (2147483647 : Int) < (l : Int) := by omega
  by_cases g3 : 20000 < n
  · have q3 : (20000 : Int) < (n : Int) := by omega
    go_enter Try.func3, Try.ntmps3
    go_wp2_with fail
    go_ret
    exact ⟨rfl, by go_grown⟩
  have q3 : ¬ (20000 : Int) < (n : Int) := by omega
  by_cases g4 : 20000 < m
  · have q4 : (20000 : Int) < (m : Int) := by omega
    go_enter Try.func3, Try.ntmps3
    go_wp2_with fail
    go_ret
    exact ⟨rfl, by go_grown⟩
  have q4 : ¬ (20000 : Int) < (m : Int) := by omega
  by_cases g5 : 20000 < l
  · have q5 : (20000 : Int) < (l : Int) := by omega
    go_enter Try.func3, Try.ntmps3
    go_wp2_with fail
    go_ret
    exact ⟨rfl, by go_grown⟩
  have q5 : ¬ (20000 : Int) < (l : Int) := by omega
  exact main w a b c n m l cn cm cl xs ys zs HX.out HY.out HZ.out (by omega) (by omega) (by omega) NA.out NB.out NC.out
end Go.Proofs.Ytgogeonbamheoaa.Tri
