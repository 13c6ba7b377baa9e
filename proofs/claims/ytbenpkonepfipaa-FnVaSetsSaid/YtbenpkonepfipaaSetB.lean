/- A set of hashes: putting in, taking out, asking, copying, emptying, walked. Conditions: the map is there, the keys have twenty bytes. -/
import Derived.Test.YtbenpkonepfipaaSetA
set_option linter.unusedVariables false
namespace Go.Proofs.Ytbenpkonepfipaa.Sets
open Go.ChangeShapes Go.WideShapes Go.ChangeAt Go.RowKit Go.Maps
open Go.Proofs.Ytbenpkonepfipaa.Dig Go.Proofs.Ytbenpkonepfipaa.Mem Go.Proofs.Ytbenpkonepfipaa.Rb Go.Proofs.Ytbenpkonepfipaa.Ord

theorem info64' : (Try.prog.info? 64).map (·.size) = some 20 := by kernel_rfl
theorem size64' {A : Array Value} (h : A.size = 20) : (Try.prog.info? 64).map (·.size) = some A.size := by rw [h]; exact info64'
theorem zeroE (w : World) : (zeroValue 99).run Try.prog w = .ok (.agg #[]) w := by kernel_rfl
abbrev Z20 : Array Value := #[.int .u8 0, .int .u8 0, .int .u8 0, .int .u8 0, .int .u8 0, .int .u8 0, .int .u8 0, .int .u8 0, .int .u8 0, .int .u8 0, .int .u8 0, .int .u8 0, .int .u8 0, .int .u8 0, .int .u8 0, .int .u8 0, .int .u8 0, .int .u8 0, .int .u8 0, .int .u8 0]

/-- Block B is a set. -/
abbrev Has (w : World) (B n : Nat) (D : DataW Unit) : Prop := w.ownsMap Try.prog 64 U B n D

theorem insert (w : World) (B n : Nat) (D : DataW Unit) (A : Array Value) (l : Lit) (hA : A.size = 20) (hk : keyOf Try.prog 64 (.agg A) = some l) (h : Has w B n D) (hn : n < maxLen) :
    Calls Try.prog 54 #[.map (some B), .agg A] w fun e w' => e = .returned (.tuple #[]) ∧ Has w' B (n + 1) (D.put l unit) ∧ w.grownBy w' (some B) := by
  have H := Lib.hid h
  have HK := Lib.hid hk
  have HS := Lib.hid (size64' hA)
  clear h hk hA
  go_enter Try.func54, Try.ntmps54
  go_wp2_with (first
    | (with_reducible refine wpList_load_row rfl 64 (.tmp 3) rfl w.heap.size rfl 64 A (0, 0) _ (heap_alloc_new _ _) Try.underlying64 rfl HS.out ?_)
    | (at_mapUpdate; refine wpList_mapUpdate_own _ rfl _ _ _ 84 rfl 64 99 law Try.underlying84 U B n D rfl (H.out.alloc _) hn _ _ _ rfl rfl HK.out unit [] unitElem_mk ?_; intro w1 o1 g1; have O1 := Lib.hid o1; have G1 := Lib.hid ((World.grownBy_alloc w _ (some B)).trans g1); clear o1 g1))
  go_end0
  exact ⟨rfl, O1.out, G1.out⟩

theorem remove (w : World) (B n : Nat) (D : DataW Unit) (A : Array Value) (l : Lit) (hA : A.size = 20) (hk : keyOf Try.prog 64 (.agg A) = some l) (h : Has w B n D) :
    Calls Try.prog 55 #[.map (some B), .agg A] w fun e w' => e = .returned (.tuple #[]) ∧ Has w' B n (D.del l) ∧ w.grownBy w' (some B) := by
  have H := Lib.hid h
  have HK := Lib.hid hk
  have HS := Lib.hid (size64' hA)
  clear h hk hA
  go_enter Try.func55, Try.ntmps55
  go_wp2_with (first
    | (with_reducible refine wpList_load_row rfl 64 (.tmp 3) rfl w.heap.size rfl 64 A (0, 0) _ (heap_alloc_new _ _) Try.underlying64 rfl HS.out ?_)
    | (at_delete; refine wpList_delete_own _ rfl _ _ 84 64 rfl 99 law Try.underlying84 U B n D rfl (H.out.alloc _) _ _ rfl HK.out ?_; intro w1 o1 t1; have O1 := Lib.hid o1; have G1 := Lib.hid ((World.grownBy_alloc w _ (some B)).trans t1.grown); clear o1 t1))
  go_end0
  exact ⟨rfl, O1.out, G1.out⟩

theorem asked (w : World) (B n : Nat) (D : DataW Unit) (A : Array Value) (l : Lit) (hA : A.size = 20) (hk : keyOf Try.prog 64 (.agg A) = some l) (h : Has w B n D) :
    Calls Try.prog 56 #[.map (some B), .agg A] w fun e w' => e = .returned (.bool (Maps.has D l)) ∧ w.grownBy w' none := by
  have H := Lib.hid h
  have HK := Lib.hid hk
  have HS := Lib.hid (size64' hA)
  clear h hk hA
  go_enter Try.func56, Try.ntmps56
  go_wp2_with (first
    | (with_reducible refine wpList_load_row rfl 64 (.tmp 3) rfl w.heap.size rfl 64 A (0, 0) _ (heap_alloc_new _ _) Try.underlying64 rfl HS.out ?_)
    | (at_lookup; refine wpList_lookup_own_unit _ rfl _ _ 84 rfl 64 99 law Try.underlying84 (zeroE _) B n D rfl (H.out.alloc _) _ _ rfl HK.out ?_))
  go_ret
  exact ⟨rfl, World.grownBy_alloc w _ none⟩

theorem sizeOfSet (w : World) (B n : Nat) (D : DataW Unit) (h : Has w B n D) :
    Calls Try.prog 60 #[.map (some B)] w fun e w' => e = .returned (.int .i64 ((Maps.size D : Nat) : Int)) ∧ w = w' := by
  have H := Lib.hid h
  clear h
  go_enter Try.func60, Try.ntmps60
  go_wp2_with (at_len; refine wpList_len_own _ rfl _ 84 rfl 64 99 Try.underlying84 U B n D rfl H.out ?_)
  go_ret
  exact ⟨rfl, rfl⟩

theorem run_makeHint (w : World) (n : Int) : (Instr.makeMap 84 (some (.int .i64 n))).run Try.prog w = .ok (.map (some w.heap.size)) (w.alloc (.map #[] 0)) := by
  unfold Instr.makeMap
  simp [run_underlying Try.underlying84, Result.andThen, asInt, asIntOf]

/-- What one step of a range over a set has brought. -/
structure Came (w w' : World) (b r n : Nat) (D : DataW Unit) (left : Lit → Bool) (cnt cnt' : Nat) (A : Array Value) (l : Lit) : Prop where
  size : A.size = 20
  one : A.all (·.oneCell') = true
  key : keyOf Try.prog 64 (.agg A) = some l
  due : left l = true
  at_ : ∀ zd, D.atKey l zd = unit
  ranges : w'.ranges Try.prog 64 U b r n D (fun z => left z && !z.sameKey l) cnt'
  lt : cnt' < cnt
  grown : w.grownBy w' (some r)
  same : w'.heap.size = w.heap.size
structure Done (left : Lit → Bool) (cnt : Nat) : Prop where
  none : cnt = 0
  all : ∀ kl, left kl = false
/-- One step of a range over a set. -/
theorem next_key {w : World} {ops : Array Oper} {rest : List Oper} {o : Oper} {a : Act} {Q : Exit → Act → World → Prop} (hg : o.guard = none) (it : Operand) (hop : o.op = Op.next it false)
    (b r n : Nat) (D : DataW Unit) (left : Lit → Bool) (cnt : Nat) (hit : a.eval it = .pointer (some ⟨r, 0, none⟩)) (h : w.ranges Try.prog 64 U b r n D left cnt)
    (hDone : Done left cnt → wpList Try.prog ops Q rest (a.put o.dst (.tuple #[.bool false])) w)
    (hMore : ∀ (A : Array Value) (l : Lit) (w' : World) (cnt' : Nat), Came w w' b r n D left cnt cnt' A l →
      (Instr.entry (.pointer (some ⟨r, 0, none⟩))).run Try.prog w' = .ok (.tuple #[.agg A, .agg #[]]) w' → wpList Try.prog ops Q rest (a.put o.dst (.tuple #[.bool true, .agg A, .agg #[]])) w') :
    wpList Try.prog ops Q (o :: rest) a w :=
  wpList_next_ranges w hg it hop 64 law U (fun x : { cs : Array Value // cs.size = 20 ∧ cs.all (·.oneCell') = true } => Value.agg x.1) (fun _ : Unit => Value.agg #[]) (fun _ _ => key_inv) (fun _ _ h => ⟨(), (unitElem_inv h).1⟩)
    b r n D left cnt hit h (fun h1 h2 => hDone ⟨h1, h2⟩) (fun x c l y w' cnt' hkey hlk hv hat hrg hlt hgr hsz hen => by
      obtain ⟨_, rfl⟩ := unitElem_inv hv
      exact hMore x.1 l w' cnt' ⟨x.2.1, x.2.2, hkey, hlk, hat, hrg, hlt, hgr, hsz⟩ hen)

set_option maxRecDepth 100000 in
theorem newSet (w : World) : Calls Try.prog 53 #[.slice none 0 0] w fun e w' => e = .returned (.map (some w.heap.size)) ∧ Has w' w.heap.size 0 (.map []) ∧ Below w.heap.size w w' := by
  have hmm := run_makeHint w 0
  go_enter Try.func53, Try.ntmps53
  go_wp2_with fail
  refine wp_loop_rounds 1 ?_
  rw [rounds_succ]
  go_wp2_with fail
  go_ret
  exact ⟨rfl, World.ownsMap_made _ _ _ _, (Below.refl _ _).alloc (Nat.le_refl _) _⟩

set_option maxRecDepth 100000 in
theorem copySet (w : World) (B n : Nat) (D : DataW Unit) (h : Has w B n D) (hn : n ≤ 1000) :
    Calls Try.prog 58 #[.map (some B)] w fun e w' => e = .returned (.map (some w.heap.size)) ∧ Has w' w.heap.size n D ∧ Below w.heap.size w w' := by
  have hD := tight h
  obtain ⟨s, hs⟩ : ∃ s, s = Maps.size D := ⟨_, rfl⟩
  rw [← hs] at hD
  have hsn : s ≤ n := by rw [hs]; exact h.size_le
  have H := Lib.hid hD
  have hmm := fun w => run_makeHint w s
  have hbl := h.lt
  have e1 : (w.alloc (.map #[] 0)).heap.size = w.heap.size + 1 := by simp
  have HS := Lib.hid hs
  have CN := Lib.hid (h.canon law)
  clear h hD hs
  go_enter Try.func58, Try.ntmps58
  go_wp2_with (first
    | (at_len; refine wpList_len_own _ rfl _ 84 rfl 64 99 Try.underlying84 U B s D rfl H.out ?_; rw [← HS.out])
    | (at_range; refine wpList_range_own _ rfl _ 84 rfl 64 99 law Try.underlying84 U B s _ rfl (H.out.alloc _) ?_; intro w0 hrg0 hg0 hs0)
    | go_in)
  go_frame
  rw [e1] at hrg0 hs0 ⊢
  rw [← HS.out] at hrg0
  have RG := Lib.hid hrg0
  have G0 := Lib.hid hg0
  clear hrg0 hg0
  go_loopw [4] (fun _ wr => ∃ (left : Lit → Bool) (cnt : Nat) (Do : DataW Unit), wr.ranges Try.prog 64 U B (w.heap.size + 1) s D left cnt ∧ cnt ≤ s ∧
      wr.ownsMap Try.prog 64 U w.heap.size (s - cnt) Do ∧ Agree Do D left ∧ Below w.heap.size w wr)
    (fun _ wr => wr.rangeLeft B (w.heap.size + 1))
  case atStart =>
    exact ⟨_, _, .map [], RG.out, Nat.le_refl _, ((World.ownsMap_made _ _ _ _).kept G0.out (by simp)).mono (Nat.zero_le _), agree_start D, ((Below.refl _ _).alloc (Nat.le_refl _) _).grown G0.out (by simp) (fun j hj => by cases hj)⟩
  case round =>
    obtain ⟨left, cnt, Do, hrg, hcs, hout, hA, hnx⟩ := hrel
    go_wp2_with (first
      | (at_next; refine next_key rfl _ rfl B (w.heap.size + 1) s D left cnt rfl hrg ?_ ?_)
      | go_in)
    · intro hd
      go_wp2_with fail
      go_ret
      have hc := hd.none
      subst hc
      have e := agree_end hA hd.all (hout.canon law) CN.out
      subst e
      exact ⟨rfl, hout.mono (by omega), hnx⟩
    · intro A l w1 cnt1 hcame hen
      have hout1 := Lib.hid (hout.kept hcame.grown (by simp))
      have HS := Lib.hid (size64' hcame.size)
      have HZ := Lib.hid (show Z20.size = A.size by rw [hcame.size]; rfl)
      have hlt := hcame.lt
      go_wp2_with (first
        | (with_reducible refine store_new (A := Z20) (t := 64) rfl 64 (.tmp 4) (.tmp 13) rfl A rfl rfl HS.out HZ.out hcame.one ?_)
        | (with_reducible refine wpList_load_row rfl 64 (.tmp 4) rfl w1.heap.size rfl 64 A (0, 0) _ (heap_alloc_new _ _) Try.underlying64 rfl HS.out ?_)
        | (at_mapUpdate; refine wpList_mapUpdate_own _ rfl _ _ _ 84 rfl 64 99 law Try.underlying84 U w.heap.size _ _ rfl (hout1.out.alloc _) (by unfold maxLen; omega) _ _ _ rfl rfl hcame.key unit [] unitElem_mk ?_; intro w2 hout2 hg2; go_frame)
        | go_in)
      have hrg1 := hcame.ranges.alloc (.cells A 64)
      have hlt1 := hrg1.owns.lt
      have hrg2 := hrg1.kept hg2 (fun e => by have := Option.some.inj e; omega) (fun e => by have := Option.some.inj e; omega)
      have hw1 := hcame.same
      go_roundw
      case rel =>
        exact ⟨_, cnt1, _, hrg2, by omega, hout2.mono (by omega), agree_step hA hout.isMap (law.key hcame.key) hcame.at_,
          ((hnx.grown hcame.grown hnx.size (fun j hj => by cases hj; exact Nat.le_succ _)).alloc (by have := hnx.size; omega) _).grown hg2 (by have := hnx.size; simp; omega) (fun j hj => by cases hj; exact Nat.le_refl _)⟩
      case measure => rw [hrg2.left_eq, hrg.left_eq]; exact hlt

theorem put_same {D : DataW Unit} {l : Lit} (c : Canon D) (hm : WideAt.IsKeyLit l) (c' : Canon (D.put l unit)) (hat : ∀ zd, D.atKey l zd = unit) : D.put l unit = D := by
  have hi : IsMap D := by obtain ⟨es, e, _⟩ := c; exact ⟨es, e⟩
  refine Maps.ext c' c (fun k => ?_) (fun k z hk => ?_)
  · by_cases e : k = l
    · subst e; rw [has_put_same hi hm, has_true_of_atKey hat]
    · rw [has_put_other e]
  · by_cases e : k = l
    · subst e; rw [atKey_put_same hi hm, hat]
    · rw [atKey_put_other e]

set_option maxRecDepth 100000 in
theorem insertAll (w : World) (B C n m : Nat) (D : DataW Unit) (h : Has w B n D) (h' : Has w C m D) (hne : B ≠ C) (hn : n ≤ 1000) :
    Calls Try.prog 57 #[.map (some B), .map (some C)] w fun e w' => e = .returned (.tuple #[]) ∧ Has w' B n D ∧ w.grownBy w' (some B) := by
  have hD := tight h
  have H := Lib.hid h
  have H' := Lib.hid h'
  have hbl := h.lt
  have hcl := h'.lt
  have hsn := h.size_le
  have CN := Lib.hid (h.canon law)
  clear h h' hD
  go_enter Try.func57, Try.ntmps57
  go_wp2_with (first
    | (at_range; refine wpList_range_own _ rfl _ 84 rfl 64 99 law Try.underlying84 U C m _ rfl H'.out ?_; intro w0 hrg0 hg0 hs0)
    | go_in)
  go_frame
  have RG := Lib.hid hrg0
  have G0 := Lib.hid hg0
  clear hrg0 hg0
  go_loopw [4] (fun _ wr => ∃ (left : Lit → Bool) (cnt : Nat), wr.ranges Try.prog 64 U C w.heap.size m D left cnt ∧ Has wr B n D ∧ w.grownBy wr (some B))
    (fun _ wr => wr.rangeLeft C w.heap.size)
  case atStart => exact ⟨_, _, RG.out, H.out.kept G0.out (by simp), G0.out.but _⟩
  case round =>
    obtain ⟨left, cnt, hrg, hown, hgr⟩ := hrel
    have hlt0 := hgr.size
    go_wp2_with (first
      | (at_next; refine next_key rfl _ rfl C w.heap.size m D left cnt rfl hrg ?_ ?_)
      | go_in)
    · intro hd
      go_wp2_with fail
      go_end0
      exact ⟨rfl, hown, hgr⟩
    · intro A l w1 cnt1 hcame hen
      have hown1 := Lib.hid (tight (hown.kept hcame.grown (fun e => by have := Option.some.inj e; omega)))
      have HS := Lib.hid (size64' hcame.size)
      have HZ := Lib.hid (show Z20.size = A.size by rw [hcame.size]; rfl)
      have hlt := hcame.lt
      go_wp2_with (first
        | (with_reducible refine store_new (A := Z20) (t := 64) rfl 64 (.tmp 4) (.tmp 11) rfl A rfl rfl HS.out HZ.out hcame.one ?_)
        | (with_reducible refine wpList_load_row rfl 64 (.tmp 4) rfl w1.heap.size rfl 64 A (0, 0) _ (heap_alloc_new _ _) Try.underlying64 rfl HS.out ?_)
        | (at_mapUpdate; refine wpList_mapUpdate_own _ rfl _ _ _ 84 rfl 64 99 law Try.underlying84 U B _ _ rfl (hown1.out.alloc _) (by unfold maxLen; omega) _ _ _ rfl rfl hcame.key unit [] unitElem_mk ?_; intro w2 hown2 hg2; go_frame)
        | go_in)
      have hrg1 := hcame.ranges.alloc (.cells A 64)
      have hrg2 := hrg1.kept hg2 (fun e => hne (Option.some.inj e).symm) (fun e => by have := Option.some.inj e; omega)
      have hw1 := hcame.same
      have hsame := put_same CN.out (law.key hcame.key) (hown2.canon law) hcame.at_
      rw [hsame] at hown2
      go_roundw
      case rel =>
        refine ⟨_, cnt1, hrg2, (tight hown2).mono hsn, ?_⟩
        exact (hgr.andThen hcame.grown (fun j hj => by cases hj; exact Or.inl (Nat.le_refl _))).trans ((World.grownBy_alloc w1 (.cells A 64) (some B)).trans hg2)
      case measure => rw [hrg2.left_eq, hrg.left_eq]; exact hlt

set_option maxRecDepth 100000 in
theorem emptySet (w : World) (B n : Nat) (D : DataW Unit) (h : Has w B n D) (hn : n ≤ 1000) :
    Calls Try.prog 59 #[.map (some B)] w fun e w' => e = .returned (.tuple #[]) ∧ (∃ D', Has w' B n D' ∧ ∀ l, Maps.has D' l = false) ∧ w.grownBy w' (some B) := by
  have H := Lib.hid h
  have hbl := h.lt
  clear h
  go_enter Try.func59, Try.ntmps59
  go_wp2_with (first
    | (at_range; refine wpList_range_own _ rfl _ 84 rfl 64 99 law Try.underlying84 U B n _ rfl H.out ?_; intro w0 hrg0 hg0 hs0)
    | go_in)
  go_frame
  have RG := Lib.hid hrg0
  have G0 := Lib.hid hg0
  clear hrg0 hg0
  go_loopw [2] (fun _ wr => ∃ (left : Lit → Bool) (cnt : Nat) (D' : DataW Unit), wr.ranges Try.prog 64 U B w.heap.size n D' left cnt ∧ (∀ l, Maps.has D' l = left l) ∧ w.grownBy wr (some B))
    (fun _ wr => wr.rangeLeft B w.heap.size)
  case atStart => exact ⟨_, _, D, RG.out, fun _ => rfl, G0.out.but _⟩
  case round =>
    obtain ⟨left, cnt, D', hrg, hhas, hgr⟩ := hrel
    have hlt0 := hgr.size
    go_wp2_with (first
      | (at_next; refine next_key rfl _ rfl B w.heap.size n D' left cnt rfl hrg ?_ ?_)
      | go_in)
    · intro hd
      go_wp2_with fail
      go_end0
      exact ⟨rfl, ⟨D', hrg.owns, fun l => by rw [hhas, hd.all]⟩, hgr⟩
    · intro A l w1 cnt1 hcame hen
      have HS := Lib.hid (size64' hcame.size)
      have HZ := Lib.hid (show Z20.size = A.size by rw [hcame.size]; rfl)
      have hlt := hcame.lt
      go_wp2_with (first
        | (with_reducible refine store_new (A := Z20) (t := 64) rfl 64 (.tmp 2) (.tmp 8) rfl A rfl rfl HS.out HZ.out hcame.one ?_)
        | (with_reducible refine wpList_load_row rfl 64 (.tmp 2) rfl w1.heap.size rfl 64 A (0, 0) _ (heap_alloc_new _ _) Try.underlying64 rfl HS.out ?_)
        | (at_delete; refine wpList_delete_ranges _ rfl _ _ 84 64 rfl 99 law Try.underlying84 U B w.heap.size n D' _ cnt1 rfl (hcame.ranges.alloc _) _ l rfl hcame.key ?_; intro w2 cnt2 hrg2 hle hturn; go_frame)
        | go_in)
      rw [Maps.strike_twice] at hrg2
      go_roundw
      case rel =>
        refine ⟨_, cnt2, _, hrg2, fun k => ?_, ?_⟩
        · by_cases e : k = l
          · subst e; rw [has_del_same, WideAt.sameKey_self (law.key hcame.key)]; simp
          · rw [has_del_other e, hhas, sameKey_ne e]; simp
        · exact (hgr.andThen hcame.grown (fun j hj => by cases hj; exact Or.inl (Nat.le_refl _))).trans ((World.grownBy_alloc w1 (.cells A 64) (some B)).trans hturn.grown)
      case measure => rw [hrg2.left_eq, hrg.left_eq]; omega
end Go.Proofs.Ytbenpkonepfipaa.Sets
