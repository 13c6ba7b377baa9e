/- A set of hashes, its small functions walked. Conditions: the map is there, its keys have twenty bytes. -/
import Derived.Test.YtbenpkonepfipaaRws
import Derived.Test.YtbenpkonepfipaaOrd
import Derived.Maps.OwnSet
import Derived.Maps.RangeWalk
import Derived.Maps.Ext
import Derived.DeepKeys4
set_option linter.unusedVariables false
namespace Go.Proofs.Ytbenpkonepfipaa.Sets
open Go.ChangeShapes Go.WideShapes Go.ChangeAt Go.RowKit Go.Maps
open Go.Proofs.Ytbenpkonepfipaa.Dig Go.Proofs.Ytbenpkonepfipaa.Mem Go.Proofs.Ytbenpkonepfipaa.Rb Go.Proofs.Ytbenpkonepfipaa.Ord

theorem laidOut : laidOutB Try.prog = true := by kernel_rfl
theorem law : Keyed Try.prog 64 := Keyed.of_law (deep_law_laid laidOut (m := 9) (by decide) (of_decide_eq_true (by kernel_rfl)) (by kernel_rfl) (by rw [Try.underlying64]))
abbrev U : Value → Option (DataW Unit × List MemPlace) := unitElem (H := Unit)
abbrev unit : DataW Unit := .agg []

theorem mapM_some {α β : Type} {f : α → Option β} : ∀ l : List α, (∀ x ∈ l, ∃ y, f x = some y) → ∃ ys, l.mapM f = some ys
  | [], _ => ⟨[], rfl⟩
  | x :: l, h => by
    obtain ⟨y, hy⟩ := h x (List.mem_cons_self ..)
    obtain ⟨ys, hys⟩ := mapM_some l fun z hz => h z (List.mem_cons_of_mem _ hz)
    exact ⟨y :: ys, by rw [List.mapM_cons, hy, hys]; rfl⟩
theorem mapM_all {α β : Type} {f : α → Option β} : ∀ (l : List α) (ys : List β), l.mapM f = some ys → ∀ x ∈ l, ∃ y, f x = some y
  | [], _, _ => by simp
  | x :: l, ys, h => by
    rw [List.mapM_cons] at h
    obtain ⟨y, hy, h⟩ := Option.bind_eq_some_iff.1 h
    obtain ⟨zs, hz, _⟩ := Option.bind_eq_some_iff.1 h
    intro z hz'
    rcases List.mem_cons.1 hz' with rfl | hz'
    · exact ⟨y, hy⟩
    · exact mapM_all l zs hz z hz'

theorem cells64 : Try.prog.cellsOf 64 = 20 := by kernel_rfl
theorem cells5 : Try.prog.cellsOf 5 = 1 := by kernel_rfl
theorem kt64 : Try.prog.keyType 64 = true := by kernel_rfl
theorem kl5 (d : Nat) (v : Value) : Try.prog.keyLits (d + 1) 5 [v] = (match v with | .int q' n => if q' = .u8 ∧ (Lit.int .u8 n).wf = true then some [.int .u8 n] else none | _ => none) := by
  unfold Program.keyLits
  rw [Try.underlying5]
  cases v <;> rfl
theorem kl64 (d : Nat) (cs : List Value) (h : cs.length = 20) : Try.prog.keyLits (d + 1) 64 cs = ((List.range 20).mapM fun i => Try.prog.keyLits d 5 ((cs.drop (i * 1)).take 1)).map List.flatten := by
  conv => lhs; unfold Program.keyLits
  rw [Try.underlying64]
  simp only [cells64, cells5, h, if_true]
theorem types2 : ∃ m, Try.prog.types.size + 1 = m + 2 := by
  obtain ⟨m, hm⟩ := Nat.exists_eq_succ_of_ne_zero (n := Try.prog.types.size) (fun h => by
    have : (Try.prog.types.size == 0) = false := by kernel_rfl
    rw [h] at this; cases this)
  exact ⟨m, by omega⟩

theorem take_one {cs : List Value} {i : Nat} (h : i < cs.length) : (cs.drop (i * 1)).take 1 = [cs[i]] := by
  rw [Nat.mul_one, List.drop_eq_getElem_cons h]; rfl
/-- Twenty bytes are a key. -/
theorem key_some (xs : List Nat) (hl : xs.length = 20) (bx : ∀ x ∈ xs, x < 256) : ∃ l, keyOf Try.prog 64 (.agg (Arr .u8 xs)) = some l := by
  obtain ⟨m, hm⟩ := types2
  have hlen : (Value.cells (.agg (Arr .u8 xs))).toList.length = 20 := by simp [Value.cells, Arr, hl]
  have hf : Value.formed Try.prog 64 (.agg (Arr .u8 xs)) = true := by simp [Value.formed, Try.underlying64, cells64, Arr, hl]
  unfold keyOf
  rw [Try.underlying64]
  simp only [kt64, hf, Bool.and_self, if_true]
  rw [hm, kl64 (m + 1) _ hlen]
  obtain ⟨ys, hys⟩ := mapM_some (f := fun i => Try.prog.keyLits (m + 1) 5 (((Value.cells (.agg (Arr .u8 xs))).toList.drop (i * 1)).take 1)) (List.range 20) (fun i hi => by
    have hi' := List.mem_range.1 hi
    rw [take_one (by omega), kl5]
    have hix : i < xs.length := by omega
    have e : (Value.cells (.agg (Arr .u8 xs))).toList[i]'(by omega) = .int .u8 ((xs[i] : Nat) : Int) := by simp [Value.cells, Arr]
    rw [e]
    have hb := bx xs[i] (List.getElem_mem hix)
    exact ⟨_, if_pos ⟨rfl, WalkArith.wf_u8 (by omega)⟩⟩)
  exact ⟨_, by rw [hys]; rfl⟩
set_option maxRecDepth 100000 in
/-- A key is twenty cells. -/
theorem key_inv {v : Value} {l : Lit} (h : keyOf Try.prog 64 v = some l) : ∃ x : { cs : Array Value // cs.size = 20 ∧ cs.all (·.oneCell') = true }, v = .agg x.1 := by
  unfold keyOf at h
  rw [Try.underlying64] at h
  simp only [kt64, Bool.true_and] at h
  split at h
  · rename_i hf
    cases v with
    | agg cs =>
      have hsz : cs.size = 20 := by simpa [Value.formed, Try.underlying64, cells64] using hf
      obtain ⟨m, hm⟩ := types2
      have hlen : (Value.cells (.agg cs)).toList.length = 20 := by simpa [Value.cells] using hsz
      rw [hm, kl64 (m + 1) _ hlen] at h
      obtain ⟨ls, h1, _⟩ := Option.map_eq_some_iff.1 h
      obtain ⟨ys, hys, _⟩ := Option.map_eq_some_iff.1 h1
      refine ⟨⟨cs, hsz, ?_⟩, rfl⟩
      rw [Array.all_eq_true]
      intro i hi
      obtain ⟨y, hy⟩ := mapM_all _ _ hys i (List.mem_range.2 (by omega))
      rw [take_one (by omega), kl5] at hy
      have e : (Value.cells (.agg cs)).toList[i]'(by omega) = cs[i] := by simp [Value.cells]
      rw [e] at hy
      split at hy
      · rename_i hc; rw [hc]; rfl
      · cases hy
    | _ => simp [Value.formed, Try.underlying64] at hf
  · cases h
theorem arr_inj {xs ys : List Nat} (h : Arr .u8 xs = Arr .u8 ys) : xs = ys := by
  unfold Arr at h
  have h := List.toArray_inj h
  refine (List.map_inj_right (fun a b hab => ?_)).1 h
  injection hab with _ hab
  omega

/-- What twenty bytes read as, as a key. -/
noncomputable def kl (xs : List Nat) : Lit := (keyOf Try.prog 64 (.agg (Arr .u8 xs))).getD .nil
def Key (xs : List Nat) : Prop := xs.length = 20 ∧ ∀ x ∈ xs, x < 256
theorem kl_key {xs : List Nat} (h : Key xs) : keyOf Try.prog 64 (.agg (Arr .u8 xs)) = some (kl xs) := by
  obtain ⟨l, hl⟩ := key_some xs h.1 h.2
  unfold kl
  rw [hl]; rfl
theorem kl_inj {xs ys : List Nat} (hx : Key xs) (hy : Key ys) (h : kl xs = kl ys) : xs = ys := by
  have h1 := kl_key hx
  have h2 := kl_key hy
  rw [h] at h1
  exact arr_inj (Value.agg.inj (law.inj h1 h2))
theorem arr20_size {xs : List Nat} (h : xs.length = 20) : (Arr .u8 xs).size = 20 := by simp [Arr, h]

theorem tight {w : World} {b n : Nat} {D : DataW Unit} (h : w.ownsMap Try.prog 64 U b n D) : w.ownsMap Try.prog 64 U b (Maps.size D) D := by
  obtain ⟨es, clock, hb, F, _, rfl⟩ := h
  exact ⟨es, clock, hb, F, by simp [Maps.size, DataW.length_sorted], rfl⟩
end Go.Proofs.Ytbenpkonepfipaa.Sets
