/- The door to a tuple's making, and one of its fields, walked. Conditions: at most 200 fields, 20000 bytes. -/
import Derived.Test.YtgogeonbamheoaaTup10
set_option linter.unusedVariables false
namespace Go.Proofs.Ytgogeonbamheoaa.Tup
open Go.ChangeShapes Go.WideShapes Go.ChangeAt Go.RowKit
open Go.Proofs.Ytgogeonbamheoaa.Dig Go.Proofs.Ytgogeonbamheoaa.Mem Go.Proofs.Ytgogeonbamheoaa.Rb Go.Proofs.Ytgogeonbamheoaa.Sl Go.Proofs.Ytgogeonbamheoaa.Tri

theorem idle23 (p q : Addr) (w : World) :
    CallsD Try.prog 23 #[.pointer (some p), .pointer (some q)] .returning w fun e u' w' => e = .returned (.tuple #[]) ∧ u' = .returning ∧ w' = w := by
  refine callsD_of_wpS Try.func23 rfl fun c₀ cs hu => ?_
  apply wpS_seq
  apply wpS_region
  simp [wpOpsS, go_sem, recoverD, hu, Try.ntmps23, Exit.thenS]
  refine wpS_cond (t := false) (by simp [Act.eval, Array.replicate]) ?_
  simp only [Bool.false_eq_true, if_false]
  refine wpS_of_wp (wp_skip ?_)
  cases c₀
  simp_all [bodyPostS, results, Try.results23]

/-- The bytes of a tuple. -/
def tup (fs : List Fld) (n : Nat) : List Nat := cat fs ++ ofk fs n ++ pr n
theorem tup_length {w : World} (fs : List Fld) (hok : ∀ f ∈ fs, FldOk w f) (n : Nat) : (tup fs n).length = total fs + offs n + 2 := by
  unfold tup
  have h := take_lens hok fs.length
  rw [List.take_length] at h
  simp only [List.length_append, ofk_length, h, pr, List.length_cons, List.length_nil]
  rfl
theorem tup_byte {w : World} (fs : List Fld) (hok : ∀ f ∈ fs, FldOk w f) (n : Nat) (hn : n ≤ 200) (ht : total fs ≤ 20000) : ∀ x ∈ tup fs n, x < 256 := by
  intro x hx
  simp only [tup, List.mem_append, pr, List.mem_cons, List.not_mem_nil, or_false] at hx
  rcases hx with (h | h) | h | h
  · exact cat_byte hok x h
  · exact ofk_byte fs (by omega) n x h
  all_goals omega

theorem tupleOf (w : World) (a : Option Addr) (n c N : Nat) (fs : List Fld) (h : Flds w a n c fs) (hn : n ≤ 200) (ht : total fs ≤ 20000) (hN : N = total fs + offs n + 2) :
    Calls Try.prog 10 #[.slice a n c] w fun e w' => ∃ g, e = .returned (.tuple #[.slice (some ⟨g, 0, none⟩) N N, .bool true]) ∧ RB w' (some ⟨g, 0, none⟩) N N (tup fs n) ∧ Below w.heap.size w w' := by
  have hmf : ∀ (fn : Fn) (first cap : Array Value) (w : World), (Instr.makeFunc fn first cap).run Try.prog w = .ok (.func fn first cap) w := fun _ _ _ _ => rfl
  have hB : w.heap.size + 1 ≠ w.heap.size := by omega
  have T0 := Lib.hid (two_start w 22 4 (.slice none 0 0) (.bool false))
  have K := Lib.hid (newTuple _ a n c (total fs) fs (h.below T0.out.below) hn ht rfl)
  have LN := Lib.hid (tup_length fs h.ok n)
  have BY := Lib.hid (tup_byte fs h.ok n hn ht)
  have HN := Lib.hid hN
  have hNb : N ≤ 21000 := by rw [hN]; unfold offs; omega
  clear h ht hN
  go_enter_defers Try.func10, Try.ntmps10
  go_wp2_with (first
    | (go_at_call 17; (with_reducible refine (newBuffPool _).mono ?_); rintro e w0' ⟨rfl, rfl⟩)
    | (go_at_call 24; (with_reducible refine K.out.mono ?_); rintro e w1 ⟨g, N', rfl, hN', hO⟩; rw [← HN.out] at hN'; subst hN'; have T1 := Lib.hid (T0.out.later hO.bel); have HO := Lib.hid hO; clear hO; obtain ⟨c0, c1, f0, f1⟩ := T1.out.facts))
  have T2 := (T1.out.set0 (.slice (some ⟨g, 0, none⟩) N' N')).set1 (.bool true)
  obtain ⟨g0, g1, _, _⟩ := T2.facts
  have hbel := T2.below
  have hg : w.heap.size + 2 ≤ g := by have := HO.out.hg; simpa using this
  have hr := own_rb (n := N') (xs := tup fs n) HO.out (by rw [LN.out]; exact HN.out.symm) (by omega) BY.out
  have hr2 := RB.other (RB.other hr w.heap.size (.slice (some ⟨g, 0, none⟩) N' N') (by omega)) (w.heap.size + 1) (.bool true) (by omega)
  refine leaves_cons (f := 23) (args := #[.pointer (some ⟨w.heap.size, 0, none⟩), .pointer (some ⟨w.heap.size + 1, 0, none⟩)]) (by simp) (by simp [go_sem]) ?_
  refine (idle23 _ _ _).mono ?_
  rintro e u' w'' ⟨rfl, rfl, rfl⟩
  simp only [Leaves, settle]
  refine ⟨.tuple #[.slice (some ⟨g, 0, none⟩) N' N', .bool true], ?_, g, rfl, hr2, hbel⟩
  simp [results, Try.results10, go_sem, g0, g1]

theorem getD_app_l {A B : List Nat} {i : Nat} (h : i < A.length) : (A ++ B).getD i 0 = A.getD i 0 := by
  rw [List.getD_eq_getElem?_getD, List.getD_eq_getElem?_getD, List.getElem?_append_left h]
theorem getD_app_r {A B : List Nat} {i T : Nat} (h : A.length = T) : (A ++ B).getD (T + i) 0 = B.getD i 0 := by
  rw [List.getD_eq_getElem?_getD, List.getD_eq_getElem?_getD, List.getElem?_append_right (by omega), h, Nat.add_sub_cancel_left]
/-- What is read of a tuple where field j + 1 begins. -/
theorem tup_read (w : World) (b N n j T : Nat) (fs : List Fld) (hr : RB w (some ⟨b, 0, none⟩) N N (tup fs n)) (hl : ∀ f ∈ fs, f.xs.length = f.n) (hT : T = total fs) (hN : N = T + offs n + 2) (hj : j + 1 < n) (hn : n ≤ 200) (hTb : T ≤ 20000) :
    ∀ d w', Below w.heap.size w w' → Calls Try.prog 32 #[.slice (some ⟨b, T + 2 * j, none⟩) 2 d] w' fun x w'' => x = .returned (.int .u16 ((total (fs.take (j + 1)) : Nat) : Int)) ∧ Below w'.heap.size w' w'' := by
  intro d w' hb
  obtain ⟨b', o', e, hc⟩ := hr.at_ (by omega)
  injection e with e
  injection e with e1 e2
  subst e1 e2
  have hlen := hr.len
  have hc' := hc.below hb (Nat.le_refl _)
  have hcat : (cat fs).length = T := by rw [cat_length fs hl, hT]
  have hol := ofk_length fs n
  have g : ∀ i, i < (ofk fs n).length → (tup fs n).getD (T + i) 0 = (ofk fs n).getD i 0 := fun i hi => by
    unfold tup
    rw [List.append_assoc, getD_app_r hcat, getD_app_l hi]
  have hoff : 2 * j + 1 < (ofk fs n).length := by rw [hol]; omega
  have h1 := hc' (T + 2 * j) (by rw [hlen, hN]; unfold offs; omega)
  have h2 := hc' (T + 2 * j + 1) (by rw [hlen, hN]; unfold offs; omega)
  rw [Nat.zero_add] at h1 h2
  have bb : ∀ i, i < (tup fs n).length → (tup fs n).getD i 0 < 256 := fun i hi => getD_lt hr.byte hi
  have := readUint16 w' b (T + 2 * j) d _ _ h1 h2 (bb _ (by rw [hlen, hN]; unfold offs; omega)) (bb _ (by rw [hlen, hN]; unfold offs; omega))
  rw [g (2 * j) (by omega), show T + 2 * j + 1 = T + (2 * j + 1) by omega, g (2 * j + 1) (by omega), ofk_off fs n j hj] at this
  exact this

/-- Field i of a tuple, as it is handed back. -/
def part (fs : List Fld) (b N i : Nat) : Value := if (fs.getD i nof).n = 0 then .slice none 0 0 else .slice (some ⟨b, total (fs.take i), none⟩) (fs.getD i nof).n (N - total (fs.take i))

theorem cut45 (b o n c lo hi r : Nat) (k k' : IntKind) (h1 : lo ≤ hi) (h2 : hi ≤ c) (h3 : lo < c) (hr : hi - lo = r) : ∀ w', (Instr.slice 45 (.slice (some ⟨b, o, none⟩) n c) (some (.int k (lo : Int))) (some (.int k' (hi : Int))) none).run Try.prog w' = .ok (.slice (some ⟨b, o + lo, none⟩) r (c - lo)) w' := fun w' => by
  have e45 : Try.prog.elem 45 = 5 := by kernel_rfl
  have := cutA_run (P := Try.prog) (t := 45) (w := w') (by rw [e45]; exact Try.underlying45) (by rw [e45]; exact size1 w') (some ⟨b, o, none⟩) n c k k' lo hi h1 h2
  rw [this]
  unfold cutA
  rw [if_neg (by omega), hr]
  simp only [Option.map_some, Addr.add]
  by_cases h0 : lo = 0
  · subst h0; simp
  · simp [h0]

set_option maxRecDepth 100000 in
set_option maxHeartbeats 1000000 in
theorem getField (w : World) (b N E n i T : Nat) (fs : List Fld) (hr : RB w (some ⟨b, 0, none⟩) N N (tup fs n)) (hl : ∀ f ∈ fs, f.xs.length = f.n) (hfl : fs.length = n) (hT : T = total fs) (hE : E = T + offs n) (hN : N = E + 2) (hi : i < n) (hn : n ≤ 200) (hTb : T ≤ 20000) :
    Calls Try.prog 27 #[.slice (some ⟨b, 0, none⟩) N N, .int .i64 (i : Int)] w fun x w' => x = .returned (part fs b N i) ∧ Below w.heap.size w w' := by
  have K26 := count w b 0 E N n (cat fs ++ ofk fs n) (by rw [← hN]; exact hr) (by have := hr.len; unfold tup at this; rw [List.length_append] at this; simp only [pr, List.length_cons, List.length_nil] at this; omega) (by omega) (by rw [hE]; unfold offs; omega)
  rw [← hN] at K26
  have K26 := Lib.hid K26
  obtain ⟨f, hf⟩ : ∃ f, f = fs.getD i nof := ⟨_, rfl⟩
  obtain ⟨p, hp⟩ : ∃ p, p = total (fs.take i) := ⟨_, rfl⟩
  obtain ⟨q, hq⟩ : ∃ q, q = total (fs.take (i + 1)) := ⟨_, rfl⟩
  obtain ⟨M, hM⟩ : ∃ M, M = offs n := ⟨_, rfl⟩
  have hMn : M = 2 * (n - 1) := hM
  rw [← hM] at hE
  have hqp : q = p + f.n := by rw [hq, take_more (by omega), total_append, ← hf, ← hp]; simp [total]
  have hqT : q ≤ T := by rw [hq, hT]; exact total_take _
  have KQ := fun h : i + 1 < n => tup_read w b N n i T fs hr hl hT (by omega) h hn hTb
  have KP := fun h : i - 1 + 1 < n => tup_read w b N n (i - 1) T fs hr hl hT (by omega) h hn hTb
  have hqe : ¬ i + 1 < n → q = T := fun h => by rw [hq, hT, List.take_of_length_le (by omega)]
  have hp0 : i = 0 → p = 0 := fun h => by rw [hp, h]; rfl
  unfold part
  rw [← hf, ← hp]
  rw [← hq] at KQ
  have a1 : (N : Int) - 2 = (E : Int) := by omega
  have a2 : (N : Int) - 2 * (n : Int) = (T : Int) := by omega
  have a3 : ¬ (n : Int) ≤ (i : Int) := by omega
  have hNb : N ≤ 21000 := by omega
  have c1 := cut45 b 0 N N T E M .u16 .u16 (by omega) (by omega) (by omega) (by omega)
  have c2 := cut45 b 0 N N p q f.n .u16 .u16 (by omega) (by omega) (by omega) (by omega)
  rw [Nat.zero_add] at c1 c2
  clear hr hl hfl hT hf hq hM
  have HP := Lib.hid hp
  have HE := Lib.hid hE
  have HN := Lib.hid hN
  have HM := Lib.hid hMn
  have HQ := Lib.hid hqp
  have HQT := Lib.hid hqT
  have HQE := Lib.hid hqe
  have hTN : (T : Int) ≤ (N : Int) := by omega
  clear hp hE hN hMn hqp hqT hqe
  by_cases hi1 : i + 1 < n
  · obtain ⟨s, hs⟩ : ∃ s, s = 2 * i := ⟨_, rfl⟩
    obtain ⟨s2, hs2⟩ : ∃ s2, s2 = s + 2 := ⟨_, rfl⟩
    have KQ := Lib.hid (KQ hi1)
    rw [← hs] at KQ
    have b1 : (i : Int) * 2 = (s : Int) := by omega
    have b2 : (s : Int) + 2 = (s2 : Int) := by omega
    have b3 : (s : Int) < (M : Int) := by have := HM.out; omega
    have c3 := cut45 b T M (N - T) s s2 2 .i64 .i64 (by omega) (by have := HM.out; have := HN.out; have := HE.out; omega) (by have := HM.out; have := HN.out; have := HE.out; omega) (by omega)
    have hsb : s2 ≤ 1000 := by omega
    have HS := Lib.hid hs
    clear hs hs2
    by_cases hi0 : i = 0
    · have hp0 := hp0 hi0
      subst hp0
      subst hi0
      obtain rfl : s = 0 := by have := HS.out; omega
      rw [Nat.add_zero] at KQ
      obtain rfl : s2 = 2 := by omega
      by_cases hz : f.n = 0
      · rw [if_pos hz]
        obtain rfl : q = 0 := by have := HQ.out; omega
        go_enter Try.func27, Try.ntmps27
        go_wp2_with (first
          | (go_at_call 26; (with_reducible refine K26.out.mono ?_); rintro e w1 ⟨rfl, hb1⟩; have B1 := Lib.hid hb1; clear hb1)
          | (go_at_call 32; (with_reducible refine (KQ.out _ _ B1.out).mono ?_); rintro e w2 ⟨rfl, hb2⟩; have B2 := Lib.hid (B1.out.trans (hb2.mono B1.out.size)); clear hb2)
          | (go_at_call 32; (with_reducible refine (KP.out _ _ B2.out).mono ?_); rintro e w3 ⟨rfl, hb3⟩; have B3 := Lib.hid (B2.out.trans (hb3.mono B2.out.size)); clear hb3))
        go_ret
        exact ⟨rfl, B2.out⟩
      · rw [if_neg hz]
        have hne : ¬ 0 = (q : Int) := by have := HQ.out; omega
        have hne2 : ¬ 0 = q := by have := HQ.out; omega
        have hqN : q ≤ N := by have := HQT.out; omega
        rw [show f.n = q by have := HQ.out; omega]
        go_enter Try.func27, Try.ntmps27
        go_wp2_with (first
          | (go_at_call 26; (with_reducible refine K26.out.mono ?_); rintro e w1 ⟨rfl, hb1⟩; have B1 := Lib.hid hb1; clear hb1)
          | (go_at_call 32; (with_reducible refine (KQ.out _ _ B1.out).mono ?_); rintro e w2 ⟨rfl, hb2⟩; have B2 := Lib.hid (B1.out.trans (hb2.mono B1.out.size)); clear hb2)
          | (go_at_call 32; (with_reducible refine (KP.out _ _ B2.out).mono ?_); rintro e w3 ⟨rfl, hb3⟩; have B3 := Lib.hid (B2.out.trans (hb3.mono B2.out.size)); clear hb3))
        go_ret
        exact ⟨rfl, B2.out⟩
    · obtain ⟨r, hr⟩ : ∃ r, r = 2 * (i - 1) := ⟨_, rfl⟩
      obtain ⟨r2, hr2⟩ : ∃ r2, r2 = r + 2 := ⟨_, rfl⟩
      have KP := Lib.hid (KP (by omega))
      rw [← hr, show i - 1 + 1 = i by omega, ← HP.out] at KP
      have d1 : ((i : Int) - 1) * 2 = (r : Int) := by omega
      have d2 : (r : Int) + 2 = (r2 : Int) := by omega
      have d3 : 0 < (i : Int) := by omega
      have d4 : 0 < i := by omega
      have c4 := cut45 b T M (N - T) r r2 2 .i64 .i64 (by omega) (by have := HM.out; have := HN.out; have := HE.out; omega) (by have := HM.out; have := HN.out; have := HE.out; omega) (by omega)
      have hrb : r2 ≤ 1000 := by omega
      clear hr hr2
      by_cases hz : f.n = 0
      · rw [if_pos hz]
        obtain rfl : q = p := by have := HQ.out; omega
        go_enter Try.func27, Try.ntmps27
        go_wp2_with (first
          | (go_at_call 26; (with_reducible refine K26.out.mono ?_); rintro e w1 ⟨rfl, hb1⟩; have B1 := Lib.hid hb1; clear hb1)
          | (go_at_call 32; (with_reducible refine (KQ.out _ _ B1.out).mono ?_); rintro e w2 ⟨rfl, hb2⟩; have B2 := Lib.hid (B1.out.trans (hb2.mono B1.out.size)); clear hb2)
          | (go_at_call 32; (with_reducible refine (KP.out _ _ B2.out).mono ?_); rintro e w3 ⟨rfl, hb3⟩; have B3 := Lib.hid (B2.out.trans (hb3.mono B2.out.size)); clear hb3))
        go_ret
        exact ⟨rfl, B3.out⟩
      · rw [if_neg hz]
        have hne : ¬ (p : Int) = (q : Int) := by have := HQ.out; omega
        have hne2 : ¬ p = q := by have := HQ.out; omega
        go_enter Try.func27, Try.ntmps27
        go_wp2_with (first
          | (go_at_call 26; (with_reducible refine K26.out.mono ?_); rintro e w1 ⟨rfl, hb1⟩; have B1 := Lib.hid hb1; clear hb1)
          | (go_at_call 32; (with_reducible refine (KQ.out _ _ B1.out).mono ?_); rintro e w2 ⟨rfl, hb2⟩; have B2 := Lib.hid (B1.out.trans (hb2.mono B1.out.size)); clear hb2)
          | (go_at_call 32; (with_reducible refine (KP.out _ _ B2.out).mono ?_); rintro e w3 ⟨rfl, hb3⟩; have B3 := Lib.hid (B2.out.trans (hb3.mono B2.out.size)); clear hb3))
        go_ret
        exact ⟨rfl, B3.out⟩
  · obtain ⟨s, hs⟩ : ∃ s, s = 2 * i := ⟨_, rfl⟩
    have b1 : (i : Int) * 2 = (s : Int) := by omega
    have b3 : ¬ (s : Int) < (M : Int) := by have := HM.out; omega
    have hsb : s ≤ 1000 := by omega
    have HS := Lib.hid hs
    have hqT := HQE.out hi1
    subst hqT
    clear hs
    by_cases hi0 : i = 0
    · have hp0 := hp0 hi0
      subst hp0
      subst hi0
      obtain rfl : s = 0 := by have := HS.out; omega
      by_cases hz : f.n = 0
      · rw [if_pos hz]
        obtain rfl : q = 0 := by have := HQ.out; omega
        go_enter Try.func27, Try.ntmps27
        go_wp2_with (first
          | (go_at_call 26; (with_reducible refine K26.out.mono ?_); rintro e w1 ⟨rfl, hb1⟩; have B1 := Lib.hid hb1; clear hb1)
          | (go_at_call 32; (with_reducible refine (KP.out _ _ B1.out).mono ?_); rintro e w3 ⟨rfl, hb3⟩; have B3 := Lib.hid (B1.out.trans (hb3.mono B1.out.size)); clear hb3))
        go_ret
        exact ⟨rfl, B1.out⟩
      · rw [if_neg hz]
        have hne : ¬ 0 = (q : Int) := by have := HQ.out; omega
        have hne2 : ¬ 0 = q := by have := HQ.out; omega
        have hqN : q ≤ N := by have := HQT.out; omega
        rw [show f.n = q by have := HQ.out; omega]
        go_enter Try.func27, Try.ntmps27
        go_wp2_with (first
          | (go_at_call 26; (with_reducible refine K26.out.mono ?_); rintro e w1 ⟨rfl, hb1⟩; have B1 := Lib.hid hb1; clear hb1)
          | (go_at_call 32; (with_reducible refine (KP.out _ _ B1.out).mono ?_); rintro e w3 ⟨rfl, hb3⟩; have B3 := Lib.hid (B1.out.trans (hb3.mono B1.out.size)); clear hb3))
        go_ret
        exact ⟨rfl, B1.out⟩
    · obtain ⟨r, hr⟩ : ∃ r, r = 2 * (i - 1) := ⟨_, rfl⟩
      obtain ⟨r2, hr2⟩ : ∃ r2, r2 = r + 2 := ⟨_, rfl⟩
      have KP := Lib.hid (KP (by omega))
      rw [← hr, show i - 1 + 1 = i by omega, ← HP.out] at KP
      have d1 : ((i : Int) - 1) * 2 = (r : Int) := by omega
      have d2 : (r : Int) + 2 = (r2 : Int) := by omega
      have d3 : 0 < (i : Int) := by omega
      have d4 : 0 < i := by omega
      have c4 := cut45 b q M (N - q) r r2 2 .i64 .i64 (by omega) (by have := HM.out; have := HN.out; have := HE.out; omega) (by have := HM.out; have := HN.out; have := HE.out; omega) (by omega)
      have hrb : r2 ≤ 1000 := by omega
      clear hr hr2
      by_cases hz : f.n = 0
      · rw [if_pos hz]
        obtain rfl : q = p := by have := HQ.out; omega
        go_enter Try.func27, Try.ntmps27
        go_wp2_with (first
          | (go_at_call 26; (with_reducible refine K26.out.mono ?_); rintro e w1 ⟨rfl, hb1⟩; have B1 := Lib.hid hb1; clear hb1)
          | (go_at_call 32; (with_reducible refine (KP.out _ _ B1.out).mono ?_); rintro e w3 ⟨rfl, hb3⟩; have B3 := Lib.hid (B1.out.trans (hb3.mono B1.out.size)); clear hb3))
        go_ret
        exact ⟨rfl, B3.out⟩
      · rw [if_neg hz]
        have hne : ¬ (p : Int) = (q : Int) := by have := HQ.out; omega
        have hne2 : ¬ p = q := by have := HQ.out; omega
        go_enter Try.func27, Try.ntmps27
        go_wp2_with (first
          | (go_at_call 26; (with_reducible refine K26.out.mono ?_); rintro e w1 ⟨rfl, hb1⟩; have B1 := Lib.hid hb1; clear hb1)
          | (go_at_call 32; (with_reducible refine (KP.out _ _ B1.out).mono ?_); rintro e w3 ⟨rfl, hb3⟩; have B3 := Lib.hid (B1.out.trans (hb3.mono B1.out.size)); clear hb3))
        go_ret
        exact ⟨rfl, B3.out⟩
end Go.Proofs.Ytgogeonbamheoaa.Tup
