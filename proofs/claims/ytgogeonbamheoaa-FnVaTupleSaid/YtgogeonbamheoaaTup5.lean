/- A tuple's copy, its door, and how many fields it has, walked. Conditions: at most 60000 bytes; two bytes at least. -/
import Derived.Test.YtgogeonbamheoaaTup4
set_option linter.unusedVariables false
namespace Go.Proofs.Ytgogeonbamheoaa.Tup
open Go.ChangeShapes Go.WideShapes Go.ChangeAt Go.RowKit
open Go.Proofs.Ytgogeonbamheoaa.Dig Go.Proofs.Ytgogeonbamheoaa.Mem Go.Proofs.Ytgogeonbamheoaa.Rb Go.Proofs.Ytgogeonbamheoaa.Sl Go.Proofs.Ytgogeonbamheoaa.Tri

theorem own_rb {w0 w : World} {g n : Nat} {xs : List Nat} (h : Own w0 w g xs) (hn : xs.length = n) (hn2 : n ≤ 1000000) (bx : ∀ x ∈ xs, x < 256) : RB w (some ⟨g, 0, none⟩) n n xs :=
  ⟨hn, Nat.le_refl _, by unfold maxLen; omega, bx, fun _ => ⟨g, 0, rfl, bytes_of h.row⟩⟩

theorem cloneTuple (w : World) (a : Option Addr) (n c : Nat) (xs : List Nat) (h : RB w a n c xs) (hn : n ≤ 60000) :
    Calls Try.prog 29 #[.iface 54 (.int .u8 0), .slice a n c] w fun e w' => e = .returned (.slice (some ⟨w.heap.size, 0, none⟩) n n) ∧ RB w' (some ⟨w.heap.size, 0, none⟩) n n xs ∧ Below w.heap.size w w' := by
  have HR := Lib.hid fun w' (hb : Below w.heap.size w w') => h.below hb (Nat.le_refl _)
  have hl := h.len
  have HB := Lib.hid h.byte
  have R0 : (List.replicate n 0 : List Nat) = [] ++ List.replicate (xs.length + 0) 0 := by rw [List.nil_append, hl, Nat.add_zero]
  have T0 : Hid (Own w (w.alloc (.cells (bs (List.replicate n 0)).toArray 5)) w.heap.size ([] ++ List.replicate (xs.length + 0) 0)) :=
    Lib.hid ⟨by rw [← R0]; exact heap_alloc_new _ _, (Below.refl _ _).alloc (Nat.le_refl _) _, Nat.le_refl _⟩
  have O1 := Lib.hid (show 0 = ([] : List Nat).length from rfl)
  have HL := Lib.hid hl
  have hc := h.le
  have ht := h.top
  unfold maxLen at ht
  clear h hl R0
  go_enter Try.func29, Try.ntmps29
  go_wp2_with (first
    | (go_at_call 57; (with_reducible refine (poolGet _ _ (by omega)).mono ?_); rintro e w1 ⟨rfl, rfl⟩)
    | (with_reducible refine copy_own T0 rfl (.tmp 11) (.tmp 12) 22 45 rfl 5 Try.underlying22 size5 n n 0 O1.out rfl a n c rfl (HR.out _ T0.out.bel) (Nat.le_refl _) ?_; intro w2 T1))
  go_ret
  have h1 := T1.out
  rw [List.nil_append, List.replicate_zero, List.append_nil] at h1
  exact ⟨rfl, own_rb h1 HL.out (by omega) HB.out, h1.bel⟩

theorem cutL45 (a : Option Addr) (n c lo : Nat) (h : lo ≤ n) : ∀ w, (Instr.slice 45 (.slice a n c) (some (.int .i64 (lo : Int))) none none).run Try.prog w = .ok (.slice (cutA a c lo) (n - lo) (c - lo)) w := fun w => by
  have e45 : Try.prog.elem 45 = 5 := by kernel_rfl
  have he : Try.prog.underlying 45 = some (.slice (Try.prog.elem 45)) := by rw [e45]; exact Try.underlying45
  have hs : (Go.sizeOf (Try.prog.elem 45)).run Try.prog w = .ok 1 w := by rw [e45]; exact size1 w
  rw [run_slice_l w 45 a n c he .i64 (lo : Int) (by omega) (by omega), hs]
  simp [Result.andThen, sliced, cutA]

theorem count (w : World) (b o e c k : Nat) (xs : List Nat) (h : RB w (some ⟨b, o, none⟩) (e + 2) c (xs ++ pr k)) (hx : xs.length = e) (hk : k ≤ 65535) (he : e ≤ 60000) :
    Calls Try.prog 26 #[.slice (some ⟨b, o, none⟩) (e + 2) c] w fun x w' => x = .returned (.int .i64 (k : Int)) ∧ Below w.heap.size w w' := by
  obtain ⟨b', o', ea, hb⟩ := h.at_ (by omega)
  injection ea with ea
  injection ea with e1 e2
  subst e1 e2
  have h1 := hb e (by rw [List.length_append, hx]; simp [pr])
  have h2 := hb (e + 1) (by rw [List.length_append, hx]; simp [pr])
  have v1 : (xs ++ pr k).getD e 0 = k % 256 := by subst hx; simp [pr]
  have v2 : (xs ++ pr k).getD (e + 1) 0 = k / 256 := by subst hx; simp [pr]
  rw [v1] at h1
  rw [v2] at h2
  have hc := h.le
  have ht := h.top
  unfold maxLen at ht
  have K := Lib.hid fun d => readUint16 w b (o + e) d (k % 256) (k / 256) h1 (by rw [Nat.add_assoc]; exact h2) (by omega) (by omega)
  obtain ⟨q, hq⟩ : ∃ q, q = k % 256 + 256 * (k / 256) := ⟨_, rfl⟩
  have hqk : q = k := by omega
  rw [← hq, hqk] at K
  have s1 : ((e : Int) + 2) - 2 = (e : Int) := by omega
  have hcut : ∀ w, (Instr.slice 45 (.slice (some ⟨b, o, none⟩) (e + 2) c) (some (.int .i64 (e : Int))) none none).run Try.prog w = .ok (.slice (some ⟨b, o + e, none⟩) 2 (c - e)) w := fun w => by
    rw [cutL45 (some ⟨b, o, none⟩) (e + 2) c e (by omega) w]
    unfold cutA
    rw [if_neg (by omega), show e + 2 - e = 2 by omega]
    simp only [Option.map_some, Addr.add]
    by_cases h0 : e = 0
    · subst h0; simp
    · simp [h0]
  clear h hb h1 h2 v1 v2 hq hqk
  go_enter Try.func26, Try.ntmps26
  go_wp2_with (go_at_call 32; (with_reducible refine (K.out _).mono ?_); rintro x w1 ⟨rfl, hb1⟩)
  go_ret
  exact ⟨rfl, hb1⟩

theorem idle28 (p q : Addr) (w : World) :
    CallsD Try.prog 28 #[.pointer (some p), .pointer (some q)] .returning w fun e u' w' => e = .returned (.tuple #[]) ∧ u' = .returning ∧ w' = w := by
  refine callsD_of_wpS Try.func28 rfl fun c₀ cs hu => ?_
  apply wpS_seq
  apply wpS_region
  simp [wpOpsS, go_sem, recoverD, hu, Try.ntmps28, Exit.thenS]
  refine wpS_cond (t := false) (by simp [Act.eval, Array.replicate]) ?_
  simp only [Bool.false_eq_true, if_false]
  refine wpS_of_wp (wp_skip ?_)
  cases c₀
  simp_all [bodyPostS, results, Try.results28]

theorem tupleCopy (w : World) (a : Option Addr) (n c : Nat) (xs : List Nat) (h : RB w a n c xs) (hn : n ≤ 60000) :
    Calls Try.prog 12 #[.slice a n c] w fun e w' => ∃ g, e = .returned (.tuple #[.slice (some ⟨g, 0, none⟩) n n, .bool true]) ∧ RB w' (some ⟨g, 0, none⟩) n n xs ∧ Below w.heap.size w w' := by
  have hmf : ∀ (fn : Fn) (first cap : Array Value) (w : World), (Instr.makeFunc fn first cap).run Try.prog w = .ok (.func fn first cap) w := fun _ _ _ _ => rfl
  have hB : w.heap.size + 1 ≠ w.heap.size := by omega
  have T0 := Lib.hid (two_start w 22 4 (.slice none 0 0) (.bool false))
  have K := Lib.hid (cloneTuple _ a n c xs (h.below T0.out.below (Nat.le_refl _)) hn)
  clear h
  go_enter_defers Try.func12, Try.ntmps12
  go_wp2_with (first
    | (go_at_call 17; (with_reducible refine (newBuffPool _).mono ?_); rintro e w0' ⟨rfl, rfl⟩)
    | (go_at_call 29; (with_reducible refine K.out.mono ?_); rintro e w1 ⟨rfl, hr, hb1⟩; have T1 := Lib.hid (T0.out.later hb1); have HR := Lib.hid hr; clear hr; obtain ⟨c0, c1, f0, f1⟩ := T1.out.facts))
  have T2 := (T1.out.set0 (.slice (some ⟨w.heap.size + 1 + 1, 0, none⟩) n n)).set1 (.bool true)
  obtain ⟨g0, g1, _, _⟩ := T2.facts
  have hbel := T2.below
  have hr : RB w1 (some ⟨w.heap.size + 1 + 1, 0, none⟩) n n xs := by simpa using HR.out
  have hr2 := RB.other (RB.other hr w.heap.size (.slice (some ⟨w.heap.size + 1 + 1, 0, none⟩) n n) (by omega)) (w.heap.size + 1) (.bool true) (by omega)
  refine leaves_cons (f := 28) (args := #[.pointer (some ⟨w.heap.size, 0, none⟩), .pointer (some ⟨w.heap.size + 1, 0, none⟩)]) (by simp) (by simp [go_sem]) ?_
  refine (idle28 _ _ _).mono ?_
  rintro e u' w'' ⟨rfl, rfl, rfl⟩
  simp only [Leaves, settle]
  refine ⟨.tuple #[.slice (some ⟨w.heap.size + 1 + 1, 0, none⟩) n n, .bool true], ?_, w.heap.size + 1 + 1, rfl, hr2, hbel⟩
  simp [results, Try.results12, go_sem, g0, g1]
end Go.Proofs.Ytgogeonbamheoaa.Tup
