/- The making of a triple, walked. Condition: at most 20000 bytes each. -/
import Derived.Test.YtgogeonbamheoaaTri4
import Derived.Laws.CopyOwn
import Derived.Deep.OwnRows
import Derived.Laws.OwnMore
set_option linter.unusedVariables false
namespace Go.Proofs.Ytgogeonbamheoaa.Tri
open Go.ChangeShapes Go.WideShapes Go.ChangeAt Go.RowKit
open Go.Proofs.Ytgogeonbamheoaa.Dig Go.Proofs.Ytgogeonbamheoaa.Mem Go.Proofs.Ytgogeonbamheoaa.Rb Go.Proofs.Ytgogeonbamheoaa.Sl

/-- A block of the call's own that holds bytes. -/
structure Own (w0 w : World) (g : Nat) (xs : List Nat) : Prop where
  row : w.heap[g]? = some (.cells (bs xs).toArray 5 (0, 0))
  bel : Below w0.heap.size w0 w
  hg : w0.heap.size ≤ g

theorem putUint16 (w : World) (g o c v : Nat) (cur : List Nat) (hr : w.heap[g]? = some (.cells (bs cur).toArray 5 (0, 0))) (ho : o + 1 < cur.length) (hv : v < 65536) :
    Calls Try.prog 38 #[.agg #[], .slice (some ⟨g, o, none⟩) 2 c, .int .u16 (v : Int)] w fun e w' => e = .returned (.tuple #[]) ∧
      w'.heap[g]? = some (.cells (bs ((cur.set o (v % 256)).set (o + 1) (v / 256))).toArray 5 (0, 0)) ∧ ∀ B, B ≤ g → B ≤ w.heap.size → Below B w w' := by
  have hlt : g < w.heap.size := by
    rcases Nat.lt_or_ge g w.heap.size with h | h
    · exact h
    · rw [Array.getElem?_eq_none h] at hr; cases hr
  have hA : ∀ O, (w.alloc O).heap[g]? = some (.cells (bs cur).toArray 5 (0, 0)) := fun O => (Below.heap_alloc _ _ _ hlt).trans hr
  have hcell : ∀ O k, k < cur.length → (w.alloc O).cell? ⟨g, k, none⟩ = some (.int .u8 ((cur.getD k 0 : Nat) : Int)) := fun O k hk => by
    simp only [World.cell?, hA O]
    simpa using bs_get hk
  have c0 := fun O => hcell O o (by omega)
  have c1 := fun O => hcell O (o + 1) ho
  have f0 : ∀ O, (w.alloc O).frozen? ⟨g, o, none⟩ = false := fun O => by simp [World.frozen?, hA O]
  have f1 : ∀ O, (w.alloc O).frozen? ⟨g, o + 1, none⟩ = false := fun O => by simp [World.frozen?, hA O]
  have hS : ∀ v O, ((w.setCell ⟨g, o, none⟩ v).alloc O).heap[g]? = some (.cells ((bs cur).toArray.setIfInBounds o v) 5 (0, 0)) := fun v O => by
    rw [Below.heap_alloc _ _ _ (by simpa [World.setCell] using hlt)]
    simp [World.setCell, Array.getElem?_modify, hr]
  have f2 : ∀ v O, ((w.setCell ⟨g, o, none⟩ v).alloc O).frozen? ⟨g, o + 1, none⟩ = false := fun v O => by simp [World.frozen?, hS v O]
  have c2 : ∀ v O, ((w.setCell ⟨g, o, none⟩ v).alloc O).cell? ⟨g, o + 1, none⟩ = some (.int .u8 ((cur.getD (o + 1) 0 : Nat) : Int)) := fun v O => by
    simp only [World.cell?, hS v O]
    have := bs_get ho
    simpa [Array.getElem?_setIfInBounds, List.getElem?_set] using this
  have hSS : ∀ v u O, (((w.setCell ⟨g, o, none⟩ v).setCell ⟨g, o + 1, none⟩ u).alloc O).heap[g]? = some (.cells (((bs cur).toArray.setIfInBounds o v).setIfInBounds (o + 1) u) 5 (0, 0)) := fun v u O => by
    rw [Below.heap_alloc _ _ _ (by simpa [World.setCell] using hlt)]
    simp [World.setCell, Array.getElem?_modify, hr]
  have hne : o + 1 ≠ o := by omega
  have HSS := Lib.hid hSS
  clear hA hcell hr hS hSS
  go_enter Try.func38, Try.ntmps38
  go_wp2
  go_end0
  refine ⟨rfl, ?_, fun B hB hw => (((Below.refl _ _).setCell hB _).setCell hB _).alloc (by simpa [World.setCell] using hw) _⟩
  have e1 : (v : Int) % 256 = ((v % 256 : Nat) : Int) := by omega
  have e2 : (v : Int) / 256 = ((v / 256 : Nat) : Int) := by omega
  rw [HSS.out, e1, e2]
  simp [bs, List.map_set]

theorem writeUint16 (w : World) (g o c v : Nat) (cur : List Nat) (hr : w.heap[g]? = some (.cells (bs cur).toArray 5 (0, 0))) (ho : o + 1 < cur.length) (hv : v < 65536) :
    Calls Try.prog 31 #[.slice (some ⟨g, o, none⟩) 2 c, .int .u16 (v : Int)] w fun e w' => e = .returned (.tuple #[]) ∧
      w'.heap[g]? = some (.cells (bs ((cur.set o (v % 256)).set (o + 1) (v / 256))).toArray 5 (0, 0)) ∧ ∀ B, B ≤ g → B ≤ w.heap.size → Below B w w' := by
  have K := Lib.hid (putUint16 w g o c v cur hr ho hv)
  clear hr ho hv
  go_enter Try.func31, Try.ntmps31
  go_wp2_with (first
    | (go_at_call 37; (with_reducible refine (expectSize _ _ _).mono ?_); rintro e w1 ⟨rfl, rfl⟩)
    | (go_at_call 38; (with_reducible refine K.out.mono ?_); rintro e w1 ⟨rfl, h1, h2⟩))
  go_end0
  exact ⟨rfl, h1, h2⟩

theorem newBuffPool (w : World) : Calls Try.prog 17 #[] w fun e w' => e = .returned (.iface 54 (.int .u8 0)) ∧ w = w' := by
  go_enter Try.func17, Try.ntmps17
  go_wp2
  go_ret
  exact ⟨rfl, rfl⟩

theorem info5 : (Try.prog.info? 5).map (fun i => (i.zero, i.size, i.bytes)) = some (some (.int .u8 0), 1, 1) := by kernel_rfl
theorem poolGet (w : World) (n : Nat) (hn : n ≤ 1000000) :
    Calls Try.prog 57 #[.int .u8 0, .int .u64 (n : Int)] w fun e w' => e = .returned (.slice (some ⟨w.heap.size, 0, none⟩) n n) ∧ w' = w.alloc (.cells (bs (List.replicate n 0)).toArray 5) := by
  obtain ⟨i5, hi, hz0, hz1, hz2⟩ := info_parts info5
  go_enter Try.func57, Try.ntmps57
  go_wp2_with (at_make; refine wpList_make_row _ rfl _ _ 22 rfl 5 i5 (.int .u8 0) Try.underlying22 hi hz0 hz1 rfl .u64 .u64 n rfl rfl (by rw [hz2]; omega) (by omega) ?_)
  go_ret
  refine ⟨rfl, ?_⟩
  have e : madeCells #[Value.int .u8 0] n = (bs (List.replicate n 0)).toArray := by
    apply Array.toList_inj.1
    rw [toList_madeCells_one]
    simp [bs]
  rw [e]

theorem size5 : (Try.prog.info? 5).map (·.size) = some 1 := by kernel_rfl
theorem splice_zero (A B : List Nat) (r : Nat) : splice (bs (A ++ List.replicate (B.length + r) 0)) A.length (bs B) = bs (A ++ B ++ List.replicate r 0) := by
  unfold splice
  have h1 : (bs (A ++ List.replicate (B.length + r) 0)).take A.length = bs A := by simp [bs]
  have h2 : (bs (A ++ List.replicate (B.length + r) 0)).drop (A.length + (bs B).length) = bs (List.replicate r 0) := by
    rw [bs_length]
    simp [bs, List.drop_append]
  rw [h1, h2, bs_append, bs_append, List.append_assoc]

section
variable {P : Program} {ops : Array Oper} {rest : List Oper} {o : Oper} {a : Act} {Q : Exit → Act → World → Prop} {w w0 : World}
theorem copy_own {g r : Nat} {A B : List Nat} (T : Hid (Own w0 w g (A ++ List.replicate (B.length + r) 0))) (hgd : o.guard = none) (d s : Operand) (dT sT : TypeId) (ho : o.op = .call { callee := .builtin .copy, args := #[d, s], argTypes := #[dT, sT] })
    (elem : TypeId) (hu : P.underlying dT = some (.slice elem)) (hsz : (P.info? elem).map (·.size) = some 1) (N C off : Nat) (hoff : off = A.length) (hd : a.eval d = .slice (some ⟨g, off, none⟩) N C)
    (sp : Option Addr) (n c : Nat) (hs : a.eval s = .slice sp n c) (hr : RB w sp n c B) (hN : n ≤ N)
    (h : ∀ w', Hid (Own w0 w' g (A ++ B ++ List.replicate r 0)) → wpList P ops Q rest (a.put o.dst (goInt n)) w') : wpList P ops Q (o :: rest) a w := by
  subst hoff
  have hl := hr.len
  have hmin : Nat.min n N = n := Nat.min_eq_left hN
  refine wpList_copy_splice hgd d s dT sT ho elem hu hsz _ sp N C n c hd hs g A.length _ 5 T.out.row (bs B) (by rw [bs_length, hl, hmin]) (fun h0 => ⟨rfl, ?_⟩) (by simp [bs]) (fun v hv => ?_) w0.heap.size w0 T.out.bel T.out.hg ?_
  · rw [bs_length] at h0
    obtain ⟨b, of, rfl, hb⟩ := hr.at_ (by omega)
    refine ⟨_, rfl, fun j v hj => ?_⟩
    have hj' : j < B.length := by
      have := (List.getElem?_eq_some_iff.1 hj).1
      rwa [bs_length] at this
    rw [bs_get hj'] at hj
    have := hb j hj'
    unfold Addr.add
    by_cases h00 : j = 0
    · subst h00; simpa using this.trans hj
    · simp only [if_neg h00]; exact this.trans hj
  · obtain ⟨x, _, rfl⟩ := List.mem_map.1 hv
    rfl
  · intro w' h1 h2
    rw [bs_length, hl]
    refine h w' (Lib.hid ⟨?_, h2, T.out.hg⟩)
    have h3 := h1
    rw [splice_zero] at h3
    exact h3
end
end Go.Proofs.Ytgogeonbamheoaa.Tri
