/- The law of a part of a buffer, walked. No condition. -/
import Derived.Test.YtbenpkonepfipaaTri
set_option linter.unusedVariables false
namespace Go.Proofs.Ytbenpkonepfipaa.LawSlices
open Go.ChangeShapes Go.WideShapes Go.ChangeAt Go.RowKit
open Go.Proofs.Ytbenpkonepfipaa.Dig Go.Proofs.Ytbenpkonepfipaa.Mem Go.Proofs.Ytbenpkonepfipaa.Rb Go.Proofs.Ytbenpkonepfipaa.Sl Go.Proofs.Ytbenpkonepfipaa.Tri

theorem info5 : (Try.prog.info? 5).map (fun i => (i.zero, i.size, i.bytes)) = some (some (.int .u8 0), 1, 1) := by kernel_rfl
theorem cell_two_new (w : World) (x y : Value) (t : TypeId) : ∀ j u, [x, y][j]? = some u → (w.alloc (.cells #[x, y] t)).cell? ((⟨w.heap.size, 0, none⟩ : Addr).add j) = some u := by
  intro j u hj
  match j, hj with
  | 0, hj => simp at hj; subst hj; simp [Addr.add]
  | 1, hj => simp at hj; subst hj; simp [Addr.add]
  | (j + 2), hj => simp at hj

/-- Numbers of sixteen bits, two bytes each, the low one first. -/
def pack : List Nat → List Nat
  | [] => []
  | x :: xs => x % 256 :: x / 256 :: pack xs
theorem pack_length : ∀ xs, (pack xs).length = 2 * xs.length
  | [] => rfl
  | x :: xs => by simp only [pack, List.length_cons, pack_length xs]; omega
theorem pack_append : ∀ xs ys, pack (xs ++ ys) = pack xs ++ pack ys
  | [], _ => rfl
  | x :: xs, ys => by simp [pack, pack_append xs ys]
theorem pack_byte : ∀ {xs : List Nat}, (∀ x ∈ xs, x < 65536) → ∀ x ∈ pack xs, x < 256
  | [], _, x, hx => by simp [pack] at hx
  | y :: ys, h, x, hx => by
    simp only [pack, List.mem_cons] at hx
    have := h y (List.mem_cons_self ..)
    rcases hx with rfl | rfl | hx
    · omega
    · omega
    · exact pack_byte (fun z hz => h z (List.mem_cons_of_mem _ hz)) x hx
theorem off_pack : ∀ (xs : List Nat) (j : Nat), j < xs.length → off (pack xs) j = xs.getD j 0
  | [], j, h => by simp at h
  | x :: xs, 0, _ => by simp [off, pack]; omega
  | x :: xs, j + 1, h => by
    have := off_pack xs j (by simpa using h)
    unfold off at this ⊢
    rw [show (j + 1) * 2 = j * 2 + 1 + 1 by omega, show j * 2 + 1 + 1 + 1 = j * 2 + 1 + 1 + 1 from rfl]
    simpa [pack] using this
theorem take_more {cs : List Nat} {k : Nat} (h : k < cs.length) : cs.take (k + 1) = cs.take k ++ [cs.getD k 0] := by
  rw [List.take_succ_eq_append_getElem h, List.getD_eq_getElem?_getD, List.getElem?_eq_getElem h]; rfl

/-- Cells of numbers of sixteen bits. -/
def Nums (w : World) (a : Option Addr) (cs : List Nat) : Prop := 0 < cs.length → ∃ b o, a = some ⟨b, o, none⟩ ∧ b < w.heap.size ∧ ∀ i, i < cs.length → w.cell? ⟨b, o + i, none⟩ = some (.int .u16 ((cs.getD i 0 : Nat) : Int))

theorem own_form {w : World} {base n : Nat} {e : TypeId} {v : Value} {xs : List Value} (h : w.ownsRow base e 1 v n xs) : ∃ a c, v = .slice a n c := by
  rcases h.2 with ⟨h0, hn⟩ | ⟨g, cap, cur, hv, _⟩
  · exact ⟨none, 0, by rw [h0]; simp_all⟩
  · exact ⟨_, _, hv⟩
theorem hcut64 (a : Option Addr) (n c lo hi : Nat) (h1 : lo ≤ hi) (h2 : hi ≤ c) :
    ∀ w, (Instr.slice 27 (.slice a n c) (some (.int .i64 (lo : Int))) (some (.int .i64 (hi : Int))) none).run Try.prog w = .ok (.slice (cutA a c lo) (hi - lo) (c - lo)) w := fun w =>
  cutA_run (by rw [elem27]; exact Try.underlying27) (by rw [elem27]; exact size1 w) a n c .i64 .i64 lo hi h1 h2

theorem zeroTri (w : World) : TriAt (w.alloc (.cells #[.int .u8 0, .int .u8 0, .int .u8 0, .int .u8 0] 5)) (some ⟨w.heap.size, 0, none⟩) 0 4 0 0 [0, 0, 0, 0] := by
  refine ⟨⟨rfl, Nat.le_refl _, by unfold maxLen; omega, by simp, fun _ => ⟨w.heap.size, 0, rfl, fun i hi => ?_⟩⟩, rfl, rfl, Nat.le_refl _, Nat.le_refl _⟩
  match i, hi with
  | 0, _ => simp
  | 1, _ => simp
  | 2, _ => simp
  | 3, _ => simp

theorem noughtParts (w : World) : ∃ x y z, Calls Try.prog 21 #[.slice (some ⟨w.heap.size, 0, none⟩) 4 4] (w.alloc (.cells #[.int .u8 0, .int .u8 0, .int .u8 0, .int .u8 0] 5)) fun e w' =>
    e = .returned (.tuple #[x, y, z, .bool true]) ∧ Below w.heap.size w w' := by
  refine ⟨.slice (some ⟨w.heap.size, 0, none⟩) 0 4, .slice (cutA (some ⟨w.heap.size, 0, none⟩) 4 0) (0 - 0) (4 - 0), .slice (cutA (some ⟨w.heap.size, 0, none⟩) 4 0) (0 - 0) (4 - 0), (tripleParts _ _ _ _ _ _ _ (zeroTri w)).mono ?_⟩
  rintro e w' ⟨rfl, hb⟩
  exact ⟨rfl, ((Below.refl _ _).alloc (Nat.le_refl _) _).trans (hb.mono (by simp))⟩

set_option maxRecDepth 100000 in
set_option maxHeartbeats 2000000 in
theorem main (w : World) (a a' : Option Addr) (n c m d : Nat) (xs cs : List Nat) (j : Nat) (hx : RB w a n c xs) (hm : cs.length = m) (hmd : m ≤ d) (hd : d ≤ maxLen) (hc : ∀ x ∈ cs, x < 65536) (hcs : Nums w a' cs) (hn : n ≤ 4000) (hm1 : m ≤ 100) (hj : j ≤ m) :
    Calls Try.prog 5 #[.slice a n c, .slice a' m d, .int .i64 (j : Int)] w fun e w' => e = .returned (.bool true) ∧ Below w.heap.size w w' := by
  have hnc := hx.le
  have hct := hx.top
  unfold maxLen at hct hd
  obtain ⟨i5, hi, hz0, hz1, hz2⟩ := info_parts info5
  have HX := Lib.hid hx
  have HCS := Lib.hid hcs
  have HC := Lib.hid hc
  have HM := Lib.hid hm
  clear hx hcs hc hm
  have q1 : ¬ ((2147483647 : Int) < (n : Int)) := by omega
  have q2 : ¬ ((2147483647 : Int) < (m : Int)) := by omega
  have q3 : ¬ ((4000 : Int) < (n : Int)) := by omega
  have q4 : ¬ ((100 : Int) < (m : Int)) := by omega
  have q5 : ¬ ((j : Int) < 0) := by omega
  have q6 : ¬ (m < j) := by omega
  go_enter Try.func5, Try.ntmps5
  go_wp2_with fail
  go_loopw [7, 8, 47] (fun v last k wr => ∃ j l : Nat, j ≤ m ∧ k = .int .i64 j ∧ last = .int .i64 l ∧ l ≤ n ∧ (0 < j → l = cs.getD (j - 1) 0) ∧ (∀ p, p < j → cs.getD p 0 ≤ n) ∧ (∀ p, p + 1 < j → cs.getD p 0 ≤ cs.getD (p + 1) 0) ∧
    wr.ownsRow w.heap.size 5 1 v (2 * j) (bs (pack (cs.take j))) ∧ Below w.heap.size w wr) (fun _ _ k _ => m - (intOf k).toNat)
  case atStart =>
    exact ⟨0, 0, by omega, rfl, rfl, by omega, by omega, by omega, by omega, ⟨by simp [pack, bs], Or.inl ⟨rfl, rfl⟩⟩, by go_grown⟩
  case round =>
    obtain ⟨k, l, hk, rfl, rfl, hl, hl0, hp1, hp2, hown, hbel⟩ := hrel
    have HL0 := Lib.hid hl0
    have HP1 := Lib.hid hp1
    have HP2 := Lib.hid hp2
    clear hl0 hp1 hp2
    by_cases hlt : k < m
    · obtain ⟨b, o, ea, hb, hcell⟩ := HCS.out (by rw [HM.out]; omega)
      subst ea
      obtain ⟨x, hx⟩ : ∃ x, x = cs.getD k 0 := ⟨_, rfl⟩
      have gx : wr.cell? ⟨b, o + k, none⟩ = some (.int .u16 (x : Int)) := by rw [hx]; exact (hbel.cell (p := ⟨b, o + k, none⟩) hb).trans (hcell k (by rw [HM.out]; exact hlt))
      have hx16 : x < 65536 := by rw [hx]; exact getD_lt HC.out (by rw [HM.out]; exact hlt)
      have HXX := Lib.hid hx
      have HCELL := Lib.hid hcell
      have hws := hbel.size
      clear hx hcell
      by_cases e1 : x < l
      · go_wp2_with fail
        go_ret
        exact ⟨rfl, hbel⟩
      by_cases e2 : n < x
      · go_wp2_with fail
        go_ret
        exact ⟨rfl, hbel⟩
      go_wp2_with (first
        | (at_builtin; refine wpList_append_own _ rfl _ _ 27 rfl w.heap.size 5 i5 (.int .u8 0) 1 1 Try.underlying27 hi hz0 hz1 hz2 rfl (by decide) _ _ _ rfl (hown.alloc _) ⟨wr.heap.size, 0, none⟩ 2 2 [.int .u8 ((x : Int) % 256), .int .u8 ((x : Int) / 256)] rfl rfl (cell_two_new _ _ _ _) (by simp [Value.oneCell']) (by unfold maxLen; omega) (by omega) (by simp; omega) ?_; intro v' w2 hown' hgrow _))
      go_roundw
      case rel =>
        refine ⟨k + 1, x, by omega, by go_num, by go_num, by omega, fun _ => HXX.out, fun p hp => ?_, fun p hp => ?_, ?_, ?_⟩
        · rcases Nat.lt_or_ge p k with h | h
          · exact HP1.out p h
          · rw [show p = k by omega, ← HXX.out]; omega
        · rcases Nat.lt_or_ge (p + 1) k with h | h
          · exact HP2.out p h
          · have := HL0.out (by omega)
            rw [show p + 1 = k by omega, ← HXX.out, show p = k - 1 by omega, ← this]; omega
        · rw [take_more (by rw [HM.out]; exact hlt), pack_append, bs_append, ← HXX.out]
          simpa [pack, bs, Nat.mul_add] using hown'
        · exact (hbel.alloc hws _).grown hgrow (by simp; omega) (fun j hj => (hown.lt j hj).1)
      case measure => simp [intOf]; omega
    · obtain rfl : k = m := by omega
      clear hlt hk
      rw [List.take_of_length_le (by rw [HM.out]; exact Nat.le_refl _)] at hown
      obtain ⟨av, dv, rfl⟩ := own_form hown
      have hos := RB.of_own hown (pack_byte HC.out)
      have hoff : ∀ p, p < k → off (pack cs) p = cs.getD p 0 := fun p hp => off_pack cs p (by rw [HM.out]; exact hp)
      obtain ⟨lo, hlo⟩ : ∃ lo, lo = if j = 0 then 0 else cs.getD (j - 1) 0 := ⟨_, rfl⟩
      obtain ⟨hi', hhi⟩ : ∃ hi', hi' = if j < k then cs.getD j 0 else n := ⟨_, rfl⟩
      have hle1 : lo ≤ hi' := by
        rw [hlo, hhi]
        split
        · omega
        · split
          · have := HP2.out (j - 1) (by omega)
            rw [show j - 1 + 1 = j by omega] at this
            exact this
          · exact HP1.out _ (by omega)
      have hle2 : hi' ≤ n := by
        rw [hhi]
        split
        · exact HP1.out _ (by omega)
        · exact Nat.le_refl _
      have hc42 := hcut64 a n c lo hi' hle1 (by omega)
      have e1 : lo = if j = 0 then 0 else off (pack cs) (j - 1) := by
        rw [hlo]
        split
        · rfl
        · rw [hoff _ (by omega)]
      have e2 : hi' = if j * 2 < 2 * k then off (pack cs) j else n := by
        rw [hhi]
        split
        · rw [if_pos (by omega), hoff _ (by omega)]
        · rw [if_neg (by omega)]
      have K20 := sliceAt wr a av n c (2 * k) dv j lo hi' (pack cs) hos hn hnc (by omega) (by omega) (by omega) e1 e2 hle1 hle2
      have HBEL := Lib.hid hbel
      have HOWN := Lib.hid hown
      have gcut : ∀ p, p < k → ∃ b o, a' = some ⟨b, o, none⟩ ∧ ∀ q, q < k → wr.cell? ⟨b, o + q, none⟩ = some (.int .u16 ((cs.getD q 0 : Nat) : Int)) := fun p hp => by
        obtain ⟨b, o, ea, hb, hcell⟩ := HCS.out (by rw [HM.out]; omega)
        exact ⟨b, o, ea, fun q hq => (hbel.cell (p := ⟨b, o + q, none⟩) hb).trans (hcell q (by rw [HM.out]; exact hq))⟩
      have GC := Lib.hid gcut
      clear hos hoff hbel hown e1 e2 gcut hj
      by_cases hj0 : j = 0
      · subst hj0
        rw [if_pos rfl] at hlo
        subst hlo
        simp only [Int.natCast_zero, Nat.sub_zero] at K20 hc42
        have K20 := Lib.hid K20
        by_cases hk0 : k = 0
        · subst hk0
          rw [if_neg (by omega)] at hhi
          subst hhi
          go_wp2_with (first
            | (go_at_call 20; (with_reducible refine K20.out.mono ?_); rintro e w1 ⟨rfl, hb1⟩)
            | (go_at_call 21; obtain ⟨x1, x2, x3, K21⟩ := noughtParts w1; (with_reducible refine K21.mono ?_); rintro e w2 ⟨rfl, hb2⟩; have hbel2 := HBEL.out.trans ((hb1.trans (hb2.mono hb1.size)).mono HBEL.out.size); have hr := (HX.out.below hbel2 (Nat.le_refl _)).cut hle1 hle2; try simp only [Nat.sub_zero] at hr)
            | (go_at_call 19; (with_reducible refine (vaSame _ _ _ _ _ _ _ _ _ hr hr).mono ?_); rintro e w3 ⟨rfl, rfl⟩))
          go_ret
          exact ⟨by simp, hbel2⟩
        · rw [if_pos (by omega)] at hhi
          obtain ⟨b, o, rfl, hcell⟩ := GC.out 0 (by omega)
          have g0 : wr.cell? ⟨b, o, none⟩ = some (.int .u16 (hi' : Int)) := by rw [hhi]; exact hcell 0 (by omega)
          have hk1 : 0 < k := by omega
          clear hhi hcell
          go_wp2_with (first
            | (go_at_call 20; (with_reducible refine K20.out.mono ?_); rintro e w1 ⟨rfl, hb1⟩)
            | (go_at_call 21; obtain ⟨x1, x2, x3, K21⟩ := noughtParts w1; (with_reducible refine K21.mono ?_); rintro e w2 ⟨rfl, hb2⟩; have hbel2 := HBEL.out.trans ((hb1.trans (hb2.mono hb1.size)).mono HBEL.out.size); have hr := (HX.out.below hbel2 (Nat.le_refl _)).cut hle1 hle2; try simp only [Nat.sub_zero] at hr)
            | (go_at_call 19; (with_reducible refine (vaSame _ _ _ _ _ _ _ _ _ hr hr).mono ?_); rintro e w3 ⟨rfl, rfl⟩))
          go_ret
          exact ⟨by simp, hbel2⟩
      · rw [if_neg hj0] at hlo
        have K20 := Lib.hid K20
        obtain ⟨b, o, rfl, hcell⟩ := GC.out 0 (by omega)
        have g0 : wr.cell? ⟨b, o + (j - 1), none⟩ = some (.int .u16 (lo : Int)) := by rw [hlo]; exact hcell (j - 1) (by omega)
        have hj1 : 0 < j := by omega
        clear hlo
        by_cases hjk : j < k
        · rw [if_pos hjk] at hhi
          have g1 : wr.cell? ⟨b, o + j, none⟩ = some (.int .u16 (hi' : Int)) := by rw [hhi]; exact hcell j (by omega)
          clear hhi hcell
          go_wp2_with (first
            | (go_at_call 20; (with_reducible refine K20.out.mono ?_); rintro e w1 ⟨rfl, hb1⟩)
            | (go_at_call 21; obtain ⟨x1, x2, x3, K21⟩ := noughtParts w1; (with_reducible refine K21.mono ?_); rintro e w2 ⟨rfl, hb2⟩; have hbel2 := HBEL.out.trans ((hb1.trans (hb2.mono hb1.size)).mono HBEL.out.size); have hr := (HX.out.below hbel2 (Nat.le_refl _)).cut hle1 hle2; try simp only [Nat.sub_zero] at hr)
            | (go_at_call 19; (with_reducible refine (vaSame _ _ _ _ _ _ _ _ _ hr hr).mono ?_); rintro e w3 ⟨rfl, rfl⟩))
          go_ret
          exact ⟨by simp, hbel2⟩
        · rw [if_neg hjk] at hhi
          subst hhi
          clear hcell
          go_wp2_with (first
            | (go_at_call 20; (with_reducible refine K20.out.mono ?_); rintro e w1 ⟨rfl, hb1⟩)
            | (go_at_call 21; obtain ⟨x1, x2, x3, K21⟩ := noughtParts w1; (with_reducible refine K21.mono ?_); rintro e w2 ⟨rfl, hb2⟩; have hbel2 := HBEL.out.trans ((hb1.trans (hb2.mono hb1.size)).mono HBEL.out.size); have hr := (HX.out.below hbel2 (Nat.le_refl _)).cut hle1 hle2; try simp only [Nat.sub_zero] at hr)
            | (go_at_call 19; (with_reducible refine (vaSame _ _ _ _ _ _ _ _ _ hr hr).mono ?_); rintro e w3 ⟨rfl, rfl⟩))
          go_ret
          exact ⟨by simp, hbel2⟩

set_option maxRecDepth 100000 in
theorem walk (w : World) (a a' : Option Addr) (n c m d : Nat) (xs cs : List Nat) (i : Int) (hx : RB w a n c xs) (hm : cs.length = m) (hmd : m ≤ d) (hd : d ≤ maxLen) (hc : ∀ x ∈ cs, x < 65536) (hcs : Nums w a' cs) (hi1 : -9223372036854775808 ≤ i) (hi2 : i ≤ 9223372036854775807) :
    Calls Try.prog 5 #[.slice a n c, .slice a' m d, .int .i64 i] w fun e w' => e = .returned (.bool true) ∧ Below w.heap.size w w' := by
  have hnc := hx.le
  have hct := hx.top
  unfold maxLen at hct hd
  obtain ⟨i5, hi, hz0, hz1, hz2⟩ := info_parts info5
  have HX := Lib.hid hx
  have HCS := Lib.hid hcs
  have HC := Lib.hid hc
  have HM := Lib.hid hm
  clear hx hcs hc hm
  by_cases g1 : 2147483647 < n
  · have g1' : (2147483647 : Int) < (n : Int) := by omega
    go_enter Try.func5, Try.ntmps5
    go_wp2_with fail
    go_ret
    exact ⟨rfl, by go_grown⟩
  by_cases g2 : 2147483647 < m
  · have g2' : (2147483647 : Int) < (m : Int) := by omega
    go_enter Try.func5, Try.ntmps5
    go_wp2_with fail
    go_ret
    exact ⟨rfl, by go_grown⟩
  by_cases g3 : 4000 < n
  · have g3' : (4000 : Int) < (n : Int) := by omega
    go_enter Try.func5, Try.ntmps5
    go_wp2_with fail
    go_ret
    exact ⟨rfl, by go_grown⟩
  by_cases g4 : 100 < m
  · have g4' : (100 : Int) < (m : Int) := by omega
    go_enter Try.func5, Try.ntmps5
    go_wp2_with fail
    go_ret
    exact ⟨rfl, by go_grown⟩
  by_cases g5 : i < 0
  · go_enter Try.func5, Try.ntmps5
    go_wp2_with fail
    go_ret
    exact ⟨rfl, by go_grown⟩
  by_cases g6 : (m : Int) < i
  · go_enter Try.func5, Try.ntmps5
    go_wp2_with fail
    go_ret
    exact ⟨rfl, by go_grown⟩
  obtain ⟨j, rfl⟩ : ∃ j : Nat, i = (j : Int) := ⟨i.toNat, by omega⟩
  exact main w a a' n c m d xs cs j HX.out HM.out hmd (by unfold maxLen; omega) HC.out HCS.out (by omega) (by omega) (by omega)
end Go.Proofs.Ytbenpkonepfipaa.LawSlices
