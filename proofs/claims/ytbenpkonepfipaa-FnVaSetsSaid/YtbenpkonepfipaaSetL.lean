/- What a set of hashes holds behind some acts, in plain lists. No condition. -/
import Derived.Test.YtbenpkonepfipaaSetB
set_option linter.unusedVariables false
namespace Go.Proofs.Ytbenpkonepfipaa.Sets
open Go.ChangeShapes Go.WideShapes Go.Maps
open Go.Proofs.Ytbenpkonepfipaa.Mem Go.Proofs.Ytbenpkonepfipaa.Rb Go.Proofs.Ytbenpkonepfipaa.Ord

/-- The first twenty bytes, filled up with noughts. -/
def h20 (ks : List Nat) : List Nat := ks.take 20 ++ List.replicate (20 - ks.length) 0
theorem h20_key {ks : List Nat} (h : ∀ x ∈ ks, x < 256) : Key (h20 ks) := by
  refine ⟨by unfold h20; rw [List.length_append, List.length_take, List.length_replicate]; omega, fun x hx => ?_⟩
  unfold h20 at hx
  rcases List.mem_append.1 hx with hx | hx
  · exact h x (List.mem_of_mem_take hx)
  · have := (List.mem_replicate.1 hx).2; omega
/-- The keys of a set, one behind another. -/
structure Rel (D : DataW Unit) (L : List (List Nat)) : Prop where
  nodup : L.Nodup
  keys : ∀ h ∈ L, Key h
  has : ∀ h, Key h → Maps.has D (kl h) = decide (h ∈ L)
  size : Maps.size D = L.length
theorem rel_empty : Rel (.map []) [] := ⟨List.nodup_nil, by simp, fun h _ => rfl, rfl⟩
theorem kl_ne {x y : List Nat} (hx : Key x) (hy : Key y) (h : x ≠ y) : kl x ≠ kl y := fun e => h (kl_inj hx hy e)
set_option maxRecDepth 100000 in
theorem kl_lit {x : List Nat} (hx : Key x) : WideAt.IsKeyLit (kl x) := law.key (kl_key hx)
set_option maxRecDepth 100000 in
theorem rel_put {D : DataW Unit} {L : List (List Nat)} (h : Rel D L) (ht : Tidy D) {x : List Nat} (hx : Key x) : Rel (D.put (kl x) unit) (if x ∈ L then L else L ++ [x]) := by
  have hsz := size_put (k := kl x) ht unit
  rw [h.has x hx, h.size] at hsz
  by_cases hm : x ∈ L
  · rw [if_pos hm]
    refine ⟨h.nodup, h.keys, fun y hy => ?_, by rw [hsz, decide_eq_true hm]; rfl⟩
    by_cases e : y = x
    · subst e; rw [has_put_same ht.isMap (kl_lit hx), decide_eq_true hm]
    · rw [has_put_other (kl_ne hy hx e), h.has y hy]
  · rw [if_neg hm]
    refine ⟨?_, ?_, fun y hy => ?_, by rw [hsz, decide_eq_false hm]; simp⟩
    · rw [List.nodup_append]
      exact ⟨h.nodup, by simp, fun a ha b hb => by rw [List.mem_singleton.1 hb]; intro e; exact hm (e ▸ ha)⟩
    · intro y hy
      rcases List.mem_append.1 hy with hy | hy
      · exact h.keys y hy
      · rw [List.mem_singleton.1 hy]; exact hx
    · by_cases e : y = x
      · subst e; rw [has_put_same ht.isMap (kl_lit hx)]; simp
      · rw [has_put_other (kl_ne hy hx e), h.has y hy]
        simp [e]
set_option maxRecDepth 100000 in
theorem rel_del {D : DataW Unit} {L : List (List Nat)} (h : Rel D L) (ht : Tidy D) {x : List Nat} (hx : Key x) : Rel (D.del (kl x)) (L.erase x) := by
  have hsz := size_del (k := kl x) ht
  rw [h.has x hx, h.size] at hsz
  refine ⟨h.nodup.erase x, fun y hy => h.keys y (List.mem_of_mem_erase hy), fun y hy => ?_, ?_⟩
  · by_cases e : y = x
    · subst e; rw [has_del_same, decide_eq_false (fun hm => (h.nodup.mem_erase_iff.1 hm).1 rfl)]
    · rw [has_del_other (kl_ne hy hx e), h.has y hy]
      exact decide_eq_decide.2 ⟨fun hm => h.nodup.mem_erase_iff.2 ⟨e, hm⟩, fun hm => (h.nodup.mem_erase_iff.1 hm).2⟩
  · rw [List.length_erase]
    by_cases hm : x ∈ L
    · rw [if_pos hm]; rw [decide_eq_true hm, if_pos rfl] at hsz; omega
    · rw [if_neg hm]; rw [decide_eq_false hm] at hsz; simpa using hsz

def stepL (L : List (List Nat)) (k : Int) (h : List Nat) : List (List Nat) := if k = 1 then (if h ∈ L then L else L ++ [h]) else if k = 2 then L.erase h else if k = 5 then [] else L
theorem stepL_length (L : List (List Nat)) (k : Int) (h : List Nat) : (stepL L k h).length ≤ L.length + 1 := by
  unfold stepL
  split
  · split <;> simp
  · split
    · have := List.length_erase_le (a := h) (l := L); omega
    · split <;> simp
end Go.Proofs.Ytbenpkonepfipaa.Sets
