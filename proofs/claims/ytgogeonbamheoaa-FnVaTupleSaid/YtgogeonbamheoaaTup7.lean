/- The writing of a tuple's number of fields and of where they begin, walked. Conditions: the places lie in the row. -/
import Derived.Test.YtgogeonbamheoaaTup6
set_option linter.unusedVariables false
namespace Go.Proofs.Ytgogeonbamheoaa.Tup
open Go.ChangeShapes Go.WideShapes Go.ChangeAt Go.RowKit
open Go.Proofs.Ytgogeonbamheoaa.Dig Go.Proofs.Ytgogeonbamheoaa.Mem Go.Proofs.Ytgogeonbamheoaa.Rb Go.Proofs.Ytgogeonbamheoaa.Sl Go.Proofs.Ytgogeonbamheoaa.Tri

theorem writeCount (w0 w : World) (g S k : Nat) (L : List Nat) (hO : Own w0 w g L) (hL : L.length = S + 2) (hS : S ≤ 60000) (hk : k ≤ 65535) :
    Calls Try.prog 41 #[.slice (some ⟨g, 0, none⟩) (S + 2) (S + 2), .int .i64 (k : Int)] w fun e w' => e = .returned (.tuple #[]) ∧ Own w0 w' g ((L.set S (k % 256)).set (S + 1) (k / 256)) := by
  have K := Lib.hid (writeUint16 w g S 2 k L hO.row (by omega) (by omega))
  have HO := Lib.hid hO
  have hcut : ∀ w, (Instr.slice 45 (.slice (some ⟨g, 0, none⟩) (S + 2) (S + 2)) (some (.int .i64 (S : Int))) none none).run Try.prog w = .ok (.slice (some ⟨g, S, none⟩) 2 2) w := fun w => by
    rw [cutL45 (some ⟨g, 0, none⟩) (S + 2) (S + 2) S (by omega) w]
    unfold cutA
    rw [if_neg (by omega), show S + 2 - S = 2 by omega]
    simp only [Option.map_some, addr_add]
  clear hO hL
  go_enter Try.func41, Try.ntmps41
  go_wp2_with (go_at_call 31; (with_reducible refine K.out.mono ?_); rintro x w1 ⟨rfl, h1, h2⟩; have H1 := Lib.hid h1; have H2 := Lib.hid h2; clear h1 h2)
  go_end0
  exact ⟨rfl, H1.out, HO.out.bel.trans (H2.out _ HO.out.hg HO.out.bel.size), HO.out.hg⟩

theorem writeOffset (w0 w : World) (g S M C i v : Nat) (L : List Nat) (hO : Own w0 w g L) (hi : 0 < i) (hiM : 2 * i ≤ M) (hM : M ≤ C) (hC : C ≤ 100000) (hS : S + M ≤ L.length) (hv : v ≤ 65535) (h200 : i ≤ 200) :
    Calls Try.prog 36 #[.int .i64 (i : Int), .int .u16 (v : Int), .slice (some ⟨g, S, none⟩) M C] w fun e w' => e = .returned (.tuple #[]) ∧ Own w0 w' g ((L.set (S + 2 * (i - 1)) (v % 256)).set (S + 2 * (i - 1) + 1) (v / 256)) := by
  obtain ⟨p, hp⟩ : ∃ p, p = 2 * (i - 1) := ⟨_, rfl⟩
  have K := Lib.hid (writeUint16 w g (S + p) (C - p) v L hO.row (by omega) (by omega))
  have HO := Lib.hid hO
  have s1 : ((i : Int) - 1) * 2 = (p : Int) := by omega
  obtain ⟨p2, hp2⟩ : ∃ p2, p2 = p + 2 := ⟨_, rfl⟩
  have s2 : (p : Int) + 2 = (p2 : Int) := by omega
  have hi0 : ¬ ((i : Int) = 0) := by omega
  have hcut : ∀ w, (Instr.slice 60 (.slice (some ⟨g, S, none⟩) M C) (some (.int .i64 (p : Int))) (some (.int .i64 (p2 : Int))) none).run Try.prog w = .ok (.slice (some ⟨g, S + p, none⟩) 2 (C - p)) w := fun w => by
    have e60 : Try.prog.elem 60 = 5 := by kernel_rfl
    have := cutA_run (P := Try.prog) (t := 60) (w := w) (by rw [e60]; exact Try.underlying60) (by rw [e60]; exact size1 w) (some ⟨g, S, none⟩) M C .i64 .i64 p p2 (by omega) (by omega)
    rw [this]
    unfold cutA
    rw [if_neg (by omega), show p2 - p = 2 by omega]
    simp only [Option.map_some, Addr.add]
    by_cases h0 : p = 0
    · subst h0; simp
    · simp [h0]
  have hpb : p ≤ 400 := by omega
  rw [← hp]
  clear hO hS hp hp2
  go_enter Try.func36, Try.ntmps36
  go_wp2_with (go_at_call 31; (with_reducible refine K.out.mono ?_); rintro x w1 ⟨rfl, h1, h2⟩; have H1 := Lib.hid h1; have H2 := Lib.hid h2; clear h1 h2)
  go_end0
  exact ⟨rfl, H1.out, HO.out.bel.trans (H2.out _ HO.out.hg HO.out.bel.size), HO.out.hg⟩

theorem writeNone (w : World) (v M C : Nat) (a : Option Addr) :
    Calls Try.prog 36 #[.int .i64 0, .int .u16 (v : Int), .slice a M C] w fun e w' => e = .returned (.tuple #[]) ∧ w = w' := by
  go_enter Try.func36, Try.ntmps36
  go_wp2
  refine bodyPost_ret (results_none rfl _ _ _) rfl ?_
  exact ⟨rfl, rfl⟩
end Go.Proofs.Ytgogeonbamheoaa.Tup
