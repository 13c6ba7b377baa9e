/- The making of a triple, and its door, walked. Condition: at most 20000 bytes each. -/
import Derived.Test.YtgogeonbamheoaaNew4
set_option linter.unusedVariables false
namespace Go.Proofs.Ytgogeonbamheoaa.Tri
open Go.ChangeShapes Go.WideShapes Go.ChangeAt Go.RowKit
open Go.Proofs.Ytgogeonbamheoaa.Dig Go.Proofs.Ytgogeonbamheoaa.Mem Go.Proofs.Ytgogeonbamheoaa.Rb Go.Proofs.Ytgogeonbamheoaa.Sl

theorem addr_add (g lo : Nat) : (⟨g, 0, none⟩ : Addr).add lo = ⟨g, lo, none⟩ := by
  unfold Addr.add
  by_cases h : lo = 0
  · subst h; rfl
  · simp [h]
theorem cutL (g N lo k : Nat) (h : lo < N) (hk : N - lo = k) : ∀ w, (Instr.slice 38 (.slice (some ⟨g, 0, none⟩) N N) (some (.int .i64 (lo : Int))) none none).run Try.prog w = .ok (.slice (some ⟨g, lo, none⟩) k k) w := fun w => by
  have he : Try.prog.underlying 38 = some (.slice (Try.prog.elem 38)) := by rw [elem78]; exact Try.underlying38
  have hs : (sizeOf (Try.prog.elem 38)).run Try.prog w = .ok 1 w := by rw [elem78]; exact size1 w
  rw [run_slice_l w 38 (some ⟨g, 0, none⟩) N N he .i64 (lo : Int) (by omega) (by omega), hs]
  subst hk
  simp [Result.andThen, sliced, addr_add, show ¬ N = lo by omega]
theorem cutLH (g N lo hi k : Nat) (h : lo ≤ hi) (h2 : hi ≤ N) (h3 : lo < N) (hk : hi - lo = k) : ∀ w, (Instr.slice 38 (.slice (some ⟨g, 0, none⟩) N N) (some (.int .i64 (lo : Int))) (some (.int .i64 (hi : Int))) none).run Try.prog w = .ok (.slice (some ⟨g, lo, none⟩) k (N - lo)) w := fun w => by
  have := cut78 (some ⟨g, 0, none⟩) N N lo hi .i64 .i64 h h2 w
  rw [this]
  subst hk
  simp [cutA, addr_add, show ¬ N = lo by omega]

theorem tail_set (X : List Nat) (E p q r s : Nat) (h : X.length = E) : ((((X ++ List.replicate 4 0).set E p).set (E + 1) q).set (E + 2) r).set (E + 3) s = X ++ [p, q, r, s] := by
  subst h
  simp [List.replicate_succ]

theorem bytes_of {w : World} {g : Nat} {xs : List Nat} {t : TypeId} (h : w.heap[g]? = some (.cells (bs xs).toArray t (0, 0))) : Bytes w g 0 xs := fun i hi => by
  simp only [World.cell?, h, Nat.zero_add]
  simpa using bs_get hi

set_option maxRecDepth 100000 in
set_option maxHeartbeats 1000000 in
theorem newTriple (w : World) (a b c : Option Addr) (n m l cn cm cl : Nat) (xs ys zs : List Nat) (hx : RB w a n cn xs) (hy : RB w b m cm ys) (hz : RB w c l cl zs) (hn : n ≤ 20000) (hm : m ≤ 20000) (hl : l ≤ 20000) (E N2 : Nat) (hE : E = l + (m + n)) (hN2 : N2 = m + n) :
    Calls Try.prog 16 #[.iface 54 (.int .u8 0), .slice a n cn, .slice b m cm, .slice c l cl] w fun e w' => ∃ g, e = .returned (.slice (some ⟨g, 0, none⟩) (E + 4) (E + 4)) ∧ w.heap.size ≤ g ∧
      RB w' (some ⟨g, 0, none⟩) (E + 4) (E + 4) (xs ++ ys ++ zs ++ [n % 256, n / 256, N2 % 256, N2 / 256]) ∧ Below w.heap.size w w' := by
  have HX := Lib.hid fun w' (hb : Below w.heap.size w w') => hx.below hb (Nat.le_refl _)
  have HY := Lib.hid fun w' (hb : Below w.heap.size w w') => hy.below hb (Nat.le_refl _)
  have HZ := Lib.hid fun w' (hb : Below w.heap.size w w') => hz.below hb (Nat.le_refl _)
  have LX := Lib.hid hx.len
  have LY := Lib.hid hy.len
  have LZ := Lib.hid hz.len
  have BX := Lib.hid hx.byte
  have BY := Lib.hid hy.byte
  have BZ := Lib.hid hz.byte
  have t1 := hx.top
  have t2 := hy.top
  have t3 := hz.top
  have t4 := hx.le
  have t5 := hy.le
  have t6 := hz.le
  unfold maxLen at t1 t2 t3
  clear hx hy hz
  have s1 : (m : Int) + (n : Int) = (N2 : Int) := by omega
  have s2 : (l : Int) + (N2 : Int) = (E : Int) := by omega
  obtain ⟨E4, hE4⟩ : ∃ E4, E4 = E + 4 := ⟨_, rfl⟩
  obtain ⟨E2, hE2⟩ : ∃ E2, E2 = E + 2 := ⟨_, rfl⟩
  have s3 : (E : Int) + 4 = (E4 : Int) := by omega
  have s4 : (E : Int) + 2 = (E2 : Int) := by omega
  rw [← hE4]
  have bE : E ≤ 60000 := by omega
  have b4 : E4 ≤ 60004 := by omega
  have b2 : E2 ≤ 60002 := by omega
  have bN : N2 ≤ 40000 := by omega
  have HE := Lib.hid hE
  have HN2 := Lib.hid hN2
  have HE4 := Lib.hid hE4
  have HE2 := Lib.hid hE2
  clear hE hN2 hE4 hE2
  have C1 := fun g => cutL g E4 n (E4 - n) (by have := HE4.out; have := HE.out; omega) rfl
  have C2 := fun g => cutL g E4 N2 (E4 - N2) (by have := HE4.out; have := HE.out; have := HN2.out; omega) rfl
  have C3 := fun g => cutLH g E4 E E2 2 (by have := HE2.out; omega) (by have := HE4.out; have := HE2.out; omega) (by have := HE4.out; omega) (by have := HE2.out; omega)
  have C4 := fun g => cutL g E4 E2 2 (by have := HE4.out; have := HE2.out; omega) (by have := HE4.out; have := HE2.out; omega)
  have R0 : (List.replicate E4 0 : List Nat) = [] ++ List.replicate (xs.length + (ys.length + (zs.length + 4))) 0 := by
    rw [List.nil_append, LX.out, LY.out, LZ.out, HE4.out, HE.out]; congr 1; omega
  have O1 := Lib.hid (show 0 = ([] : List Nat).length from rfl)
  have T0 : Hid (Own w (w.alloc (.cells (bs (List.replicate E4 0)).toArray 5)) w.heap.size ([] ++ List.replicate (xs.length + (ys.length + (zs.length + 4))) 0)) :=
    Lib.hid ⟨by rw [← R0]; exact heap_alloc_new _ _, (Below.refl _ _).alloc (Nat.le_refl _) _, Nat.le_refl _⟩
  have O2 := Lib.hid (show n = ([] ++ xs : List Nat).length by rw [List.nil_append, LX.out])
  have O3 := Lib.hid (show N2 = ([] ++ xs ++ ys : List Nat).length by rw [List.nil_append, List.length_append, LX.out, LY.out, HN2.out]; omega)
  have N1 := Lib.hid (show n ≤ E4 by have := HE4.out; have := HE.out; omega)
  have M1 := Lib.hid (show m ≤ E4 - n by have := HE4.out; have := HE.out; omega)
  have L1' := Lib.hid (show l ≤ E4 - N2 by have := HE4.out; have := HE.out; have := HN2.out; omega)
  obtain ⟨X, hX⟩ : ∃ X, X = ([] ++ xs ++ ys ++ zs : List Nat) := ⟨_, rfl⟩
  have hXl : X.length = E := by rw [hX]; simp only [List.nil_append, List.length_append, LX.out, LY.out, LZ.out, HE.out]; omega
  have PL1 := Lib.hid (show E + 1 < (X ++ List.replicate 4 0).length by simp only [List.length_append, List.length_replicate, hXl]; omega)
  have PL2 := Lib.hid (show E2 + 1 < (((X ++ List.replicate 4 0).set E (n % 256)).set (E + 1) (n / 256)).length by simp only [List.length_set, List.length_append, List.length_replicate, hXl, HE2.out]; omega)
  have HXX := Lib.hid hX
  have HXL := Lib.hid hXl
  clear R0 hX hXl
  go_enter Try.func16, Try.ntmps16
  go_wp2_with (first
    | (go_at_call 57; (with_reducible refine (poolGet _ _ (by omega)).mono ?_); rintro e w1 ⟨rfl, rfl⟩)
    | (with_reducible refine copy_own T0 rfl (.tmp 27) (.tmp 28) 38 22 rfl 5 Try.underlying38 size5 E4 E4 0 O1.out rfl a n cn rfl (HX.out _ T0.out.bel) N1.out ?_; intro w2 T1)
    | (with_reducible refine copy_own T1 rfl (.tmp 32) (.tmp 33) 38 22 rfl 5 Try.underlying38 size5 (E4 - n) (E4 - n) n O2.out rfl b m cm rfl (HY.out _ T1.out.bel) M1.out ?_; intro w3 T2)
    | (with_reducible refine copy_own T2 rfl (.tmp 37) (.tmp 38) 38 22 rfl 5 Try.underlying38 size5 (E4 - N2) (E4 - N2) N2 O3.out rfl c l cl rfl (HZ.out _ T2.out.bel) L1'.out ?_; intro w4 T3)
    | (go_at_call 31; rw [← HXX.out] at T3; (with_reducible refine (writeUint16 w4 w.heap.size E (E4 - E) n _ T3.out.row PL1.out (by omega)).mono ?_); rintro e w5 ⟨rfl, r5, f5⟩; have b5 := T3.out.bel.trans (f5 _ (Nat.le_refl _) T3.out.bel.size); have R5 := Lib.hid r5; clear r5)
    | (go_at_call 31; (with_reducible refine (writeUint16 w5 w.heap.size E2 2 N2 _ R5.out PL2.out (by omega)).mono ?_); rintro e w6 ⟨rfl, r6, f6⟩; have b6 := b5.trans (f6 _ (Nat.le_refl _) b5.size); have R6 := Lib.hid r6; clear r6))
  go_ret
  have r6 := R6.out
  rw [HE2.out, show E + 2 + 1 = E + 3 from rfl, tail_set X E _ _ _ _ HXL.out, HXX.out, List.nil_append] at r6
  refine ⟨w.heap.size, rfl, Nat.le_refl _, ⟨?_, Nat.le_refl _, by unfold maxLen; omega, ?_, fun _ => ⟨w.heap.size, 0, rfl, bytes_of r6⟩⟩, b6⟩
  · simp only [List.length_append, List.length_cons, List.length_nil, LX.out, LY.out, LZ.out, HE4.out, HE.out]; omega
  · intro x hx
    simp only [List.mem_append, List.mem_cons, List.not_mem_nil, or_false] at hx
    rcases hx with ((hx | hx) | hx) | rfl | rfl | rfl | rfl
    · exact BX.out x hx
    · exact BY.out x hx
    · exact BZ.out x hx
    all_goals omega
theorem idle15 (p q : Addr) (w : World) :
    CallsD Try.prog 15 #[.pointer (some p), .pointer (some q)] .returning w fun e u' w' => e = .returned (.tuple #[]) ∧ u' = .returning ∧ w' = w := by
  refine callsD_of_wpS Try.func15 rfl fun c₀ cs hu => ?_
  apply wpS_seq
  apply wpS_region
  simp [wpOpsS, go_sem, recoverD, hu, Try.ntmps15, Exit.thenS]
  refine wpS_cond (t := false) (by simp [Act.eval, Array.replicate]) ?_
  simp only [Bool.false_eq_true, if_false]
  refine wpS_of_wp (wp_skip ?_)
  cases c₀
  simp_all [bodyPostS, results, Try.results15]

theorem RB.other {w : World} {g n c : Nat} {xs : List Nat} (h : RB w (some ⟨g, 0, none⟩) n c xs) (b : Nat) (v : Value) (hb : b ≠ g) : RB (w.setCell ⟨b, 0, none⟩ v) (some ⟨g, 0, none⟩) n c xs := by
  refine ⟨h.len, h.le, h.top, h.byte, fun hn => ?_⟩
  obtain ⟨b', o, e, hc⟩ := h.at_ hn
  injection e with e
  injection e with e1 e2
  subst e1
  subst e2
  refine ⟨g, 0, rfl, fun i hi => ?_⟩
  rw [← hc i hi]
  simp [World.cell?, World.setCell, Array.getElem?_modify, hb]

theorem tripleOf (w : World) (a b c : Option Addr) (n m l cn cm cl : Nat) (xs ys zs : List Nat) (hx : RB w a n cn xs) (hy : RB w b m cm ys) (hz : RB w c l cl zs) (hn : n ≤ 20000) (hm : m ≤ 20000) (hl : l ≤ 20000) (E N2 : Nat) (hE : E = l + (m + n)) (hN2 : N2 = m + n) :
    Calls Try.prog 5 #[.slice a n cn, .slice b m cm, .slice c l cl] w fun e w' => ∃ g, e = .returned (.tuple #[.slice (some ⟨g, 0, none⟩) (E + 4) (E + 4), .bool true]) ∧
      RB w' (some ⟨g, 0, none⟩) (E + 4) (E + 4) (xs ++ ys ++ zs ++ [n % 256, n / 256, N2 % 256, N2 / 256]) ∧ Below w.heap.size w w' := by
  have hmf : ∀ (fn : Fn) (first cap : Array Value) (w : World), (Instr.makeFunc fn first cap).run Try.prog w = .ok (.func fn first cap) w := fun _ _ _ _ => rfl
  have hB : w.heap.size + 1 ≠ w.heap.size := by omega
  have T0 := Lib.hid (two_start w 22 4 (.slice none 0 0) (.bool false))
  have K := Lib.hid (newTriple _ a b c n m l cn cm cl xs ys zs (hx.below T0.out.below (Nat.le_refl _)) (hy.below T0.out.below (Nat.le_refl _)) (hz.below T0.out.below (Nat.le_refl _)) hn hm hl E N2 hE hN2)
  clear hx hy hz hE hN2
  go_enter_defers Try.func5, Try.ntmps5
  go_wp2_with (first
    | (go_at_call 17; (with_reducible refine (newBuffPool _).mono ?_); rintro e w0' ⟨rfl, rfl⟩)
    | (go_at_call 16; (with_reducible refine K.out.mono ?_); rintro e w1 ⟨g, rfl, hg, hr, hb1⟩; have HG := Lib.hid hg; clear hg; have T1 := Lib.hid (T0.out.later hb1); have HR := Lib.hid hr; clear hr; obtain ⟨c0, c1, f0, f1⟩ := T1.out.facts))
  have T2 := (T1.out.set0 (.slice (some ⟨g, 0, none⟩) (E + 4) (E + 4))).set1 (.bool true)
  obtain ⟨g0, g1, _, _⟩ := T2.facts
  have hbel := T2.below
  have hg : w.heap.size + 2 ≤ g := by have := HG.out; simpa using this
  have hr2 := RB.other (RB.other HR.out w.heap.size (.slice (some ⟨g, 0, none⟩) (E + 4) (E + 4)) (by omega)) (w.heap.size + 1) (.bool true) (by omega)
  refine leaves_cons (f := 15) (args := #[.pointer (some ⟨w.heap.size, 0, none⟩), .pointer (some ⟨w.heap.size + 1, 0, none⟩)]) (by simp) (by simp [go_sem]) ?_
  refine (idle15 _ _ _).mono ?_
  rintro e u' w'' ⟨rfl, rfl, rfl⟩
  simp only [Leaves, settle]
  refine ⟨.tuple #[.slice (some ⟨g, 0, none⟩) (E + 4) (E + 4), .bool true], ?_, g, rfl, hr2, hbel⟩
  simp [results, Try.results5, go_sem, g0, g1]

end Go.Proofs.Ytgogeonbamheoaa.Tri
