/- A copy into the middle of a row of the call's own. No condition. -/
import Derived.Test.YtgogeonbamheoaaTup8
set_option linter.unusedVariables false
namespace Go.Proofs.Ytgogeonbamheoaa.Tup
open Go.ChangeShapes Go.WideShapes Go.ChangeAt Go.RowKit
open Go.Proofs.Ytgogeonbamheoaa.Dig Go.Proofs.Ytgogeonbamheoaa.Mem Go.Proofs.Ytgogeonbamheoaa.Rb Go.Proofs.Ytgogeonbamheoaa.Sl Go.Proofs.Ytgogeonbamheoaa.Tri

theorem splice_mid (A B R : List Nat) : splice (bs (A ++ (List.replicate B.length 0 ++ R))) A.length (bs B) = bs (A ++ (B ++ R)) := by
  unfold splice
  have h1 : (bs (A ++ (List.replicate B.length 0 ++ R))).take A.length = bs A := by simp [bs]
  have h2 : (bs (A ++ (List.replicate B.length 0 ++ R))).drop (A.length + (bs B).length) = bs R := by
    rw [bs_length]
    simp [bs, List.drop_append]
  rw [h1, h2, bs_append, bs_append]

section
variable {P : Program} {ops : Array Oper} {rest : List Oper} {o : Oper} {a : Act} {Q : Exit → Act → World → Prop} {w w0 : World}
theorem copy_mid {g : Nat} {A B R : List Nat} (T : Hid (Own w0 w g (A ++ (List.replicate B.length 0 ++ R)))) (hgd : o.guard = none) (d s : Operand) (dT sT : TypeId) (ho : o.op = .call { callee := .builtin .copy, args := #[d, s], argTypes := #[dT, sT] })
    (elem : TypeId) (hu : P.underlying dT = some (.slice elem)) (hsz : (P.info? elem).map (·.size) = some 1) (N C off : Nat) (hoff : off = A.length) (hd : a.eval d = .slice (some ⟨g, off, none⟩) N C)
    (sp : Option Addr) (n c : Nat) (hs : a.eval s = .slice sp n c) (hr : RB w sp n c B) (hN : n ≤ N)
    (h : ∀ w', Hid (Own w0 w' g (A ++ (B ++ R))) → wpList P ops Q rest (a.put o.dst (goInt n)) w') : wpList P ops Q (o :: rest) a w := by
  subst hoff
  have hl := hr.len
  have hmin : Nat.min n N = n := Nat.min_eq_left hN
  refine wpList_copy_splice hgd d s dT sT ho elem hu hsz _ sp N C n c hd hs g A.length _ 5 T.out.row (bs B) (by rw [bs_length, hl, hmin]) (fun h0 => ⟨rfl, ?_⟩) (by simp [bs]) (fun v hv => ?_) w0.heap.size w0 T.out.bel T.out.hg ?_
  · rw [bs_length] at h0
    obtain ⟨b, of, rfl, hb⟩ := hr.at_ (by omega)
    refine ⟨_, rfl, fun j v hj => ?_⟩
    have hj' : j < B.length := by
      have := (List.getElem?_eq_some_iff.1 hj).1
      rwa [bs_length] at this
    rw [bs_get hj'] at hj
    have := hb j hj'
    unfold Addr.add
    by_cases h00 : j = 0
    · subst h00; simpa using this.trans hj
    · simp only [if_neg h00]; exact this.trans hj
  · obtain ⟨x, _, rfl⟩ := List.mem_map.1 hv
    rfl
  · intro w' h1 h2
    rw [bs_length, hl]
    refine h w' (Lib.hid ⟨?_, h2, T.out.hg⟩)
    have h3 := h1
    rw [splice_mid] at h3
    exact h3
end
end Go.Proofs.Ytgogeonbamheoaa.Tup
