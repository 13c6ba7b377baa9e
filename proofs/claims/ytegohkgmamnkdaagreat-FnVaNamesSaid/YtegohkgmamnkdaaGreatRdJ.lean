/- An address told to the reader of a message, walked. Condition: at most 200 addresses. -/
import Derived.Test.YtegohkgmamnkdaaGreatImM
import Derived.Test.YtegohkgmamnkdaaGreatRdF
import Derived.Test.YtegohkgmamnkdaaGreatRg
set_option linter.unusedVariables false
namespace Go.Proofs.YtegohkgmamnkdaaGreat.Msg
open Go.ChangeShapes Go.WideShapes Go.ChangeAt Go.RowKit
open Go.Proofs.YtegohkgmamnkdaaGreat.Dig Go.Proofs.YtegohkgmamnkdaaGreat.Mem Go.Proofs.YtegohkgmamnkdaaGreat.Rb Go.Proofs.YtegohkgmamnkdaaGreat.Hn

theorem infoSl : (Tryz.prog.info? 26).map (fun i => (i.zero, i.size, i.bytes)) = some (some (.slice none 0 0), 1, 24) := by kernel_rfl
/-- A row of the call's own, not empty: where it lies. -/
theorem own_form {w : World} {B n : Nat} {e : TypeId} {v : Value} {xs : List Value} (h : w.ownsRow B e 1 v n xs) (hn : 0 < n) : ∃ g cap, v = .slice (some ⟨g, 0, none⟩) n cap ∧ B ≤ g ∧ g < w.heap.size ∧ n ≤ cap ∧ cap ≤ maxLen := by
  rcases h.2 with ⟨_, h0⟩ | ⟨g, cap, cur, hv, hb, hg, hle, hmax, _⟩
  · omega
  · exact ⟨g, cap, hv, hb, (Array.getElem?_eq_some_iff.1 hg).1, hle, hmax⟩

/-- The addresses told so far: in block B0 lies what is told. -/
structure Ad (wA w : World) (B0 : Nat) (c0 c1 c2 c3 c4 c5 av : Value) (fs : List Fld) : Prop where
  wr : Wr [B0] wA w
  b0 : w.heap[B0]? = some (.cells #[c0, c1, c2, c3, c4, c5, av] 42 (0, 0))
  own : w.ownsRow wA.heap.size 26 1 av fs.length (fs.map Fld.v)
  rbs : ∀ f ∈ fs, RB w f.a f.n f.c f.xs ∧ f.n = 20 ∧ ∃ q, f.a = some ⟨q, 0, none⟩ ∧ wA.heap.size ≤ q ∧ av.ownBlock ≠ some q
  lt : B0 < wA.heap.size
theorem Ad.below {wA w w' : World} {B0 : Nat} {c0 c1 c2 c3 c4 c5 av : Value} {fs : List Fld} (h : Ad wA w B0 c0 c1 c2 c3 c4 c5 av fs) (hb : Below w.heap.size w w') : Ad wA w' B0 c0 c1 c2 c3 c4 c5 av fs :=
  ⟨h.wr.trans (Wr.of_below hb), (hb.block _ (Nat.lt_of_lt_of_le h.lt h.wr.size)).trans h.b0,
    h.own.kept (row := none) ⟨hb.os, hb.tape, hb.output, hb.size, fun k hk _ => hb.block k hk⟩ (by cases av.ownBlock <;> simp),
    fun f hf => ⟨(h.rbs f hf).1.below hb (Nat.le_refl _), (h.rbs f hf).2⟩, h.lt⟩

theorem RB.lt_' {w : World} {q n c : Nat} {xs : List Nat} (h : RB w (some ⟨q, 0, none⟩) n c xs) (h0 : 0 < n) : q < w.heap.size := by
  obtain ⟨b, o', e, hb⟩ := h.at_ h0
  injection e with e
  injection e with e1 e2
  subst e1 e2
  exact lt_of_cell (hb 0 (by rw [h.len]; exact h0))

theorem wr_grown {S : List Nat} {w w' : World} {row : Option Nat} (hg : w.grownBy w' row) (hr : ∀ k, row = some k → k ∈ S) : Wr S w w' :=
  ⟨hg.os, hg.tape, hg.output, hg.size, fun k hk hn => hg.block k hk (fun e => hn (hr k e.symm))⟩
theorem grown_wr {w w' : World} {g : Nat} (h : Wr [g] w w') : w.grownBy w' (some g) :=
  ⟨h.os, h.tape, h.output, h.size, fun k hk hn => h.block k hk (by simpa using hn)⟩
theorem rb_grown {w w' : World} {row : Option Nat} {q n c : Nat} {xs : List Nat} (h : RB w (some ⟨q, 0, none⟩) n c xs) (hg : w.grownBy w' row) (hq : row ≠ some q) : RB w' (some ⟨q, 0, none⟩) n c xs :=
  ⟨h.len, h.le, h.top, h.byte, fun hn => by
    obtain ⟨b, o, e, hc⟩ := h.at_ hn
    have e2 := e
    injection e2 with e2
    injection e2 with e2 _
    refine ⟨b, o, e, fun i hi => hg.cell (hc i hi) ?_⟩
    rw [← e2]
    exact fun hh => hq hh.symm⟩
theorem own_wr {w w' : World} {B g n : Nat} {e : TypeId} {v : Value} {xs : List Value} (h : w.ownsRow B e 1 v n xs) (hw : Wr [g] w w') (hg : g < B) : w'.ownsRow B e 1 v n xs :=
  h.kept (grown_wr hw) (by
    cases hv : v.ownBlock with
    | none => exact Or.inl rfl
    | some k =>
      refine Or.inr fun e => ?_
      injection e with e
      have := (h.lt k hv).1
      omega)
/-- One address more. -/
theorem Ad.push {wA w w' : World} {B0 q : Nat} {c0 c1 c2 c3 c4 c5 av v2 : Value} {fs : List Fld} (h : Ad wA w B0 c0 c1 c2 c3 c4 c5 av fs) (f : Fld) (hf : RB w f.a f.n f.c f.xs) (hn : f.n = 20) (hq : f.a = some ⟨q, 0, none⟩) (h1 : wA.heap.size ≤ q) (h2 : av.ownBlock ≠ some q)
    (O : w'.ownsRow wA.heap.size 26 1 v2 (fs.length + 1) (fs.map Fld.v ++ [f.v])) (G : w.grownBy w' av.ownBlock) (hv : v2.ownBlock = av.ownBlock ∨ v2.ownBlock = some w.heap.size) :
    Ad wA (w'.setCell ⟨B0, 6, none⟩ v2) B0 c0 c1 c2 c3 c4 c5 v2 (fs ++ [f]) := by
  have hlt := h.lt
  have hA : ∀ k, av.ownBlock = some k → wA.heap.size ≤ k := fun k hk => (h.own.lt k hk).1
  have hS := Wr.setCell (S := [B0]) (g := B0) (o := 6) w' v2 (by simp)
  have hW : Wr [B0] wA w' := h.wr.then (T := av.ownBlock.toList) (wr_grown G (fun k hk => by rw [hk]; simp)) (fun x hx => Or.inr (hA x (by simpa using hx)))
  have one : ∀ {f : Fld} {q : Nat}, RB w f.a f.n f.c f.xs → f.n = 20 → f.a = some ⟨q, 0, none⟩ → wA.heap.size ≤ q → av.ownBlock ≠ some q → RB (w'.setCell ⟨B0, 6, none⟩ v2) f.a f.n f.c f.xs ∧ f.n = 20 ∧ ∃ q, f.a = some ⟨q, 0, none⟩ ∧ wA.heap.size ≤ q ∧ v2.ownBlock ≠ some q := fun {f q} hf hn hq h1 h2 => by
    have hqs : q < w.heap.size := by
      rw [hq] at hf
      exact RB.lt_' hf (by omega)
    refine ⟨?_, hn, q, hq, h1, ?_⟩
    · rw [hq] at hf ⊢
      exact rb_grown (rb_grown hf G h2) (grown_wr hS) (by intro e; injection e with e; omega)
    · rcases hv with hv | hv
      · rw [hv]; exact h2
      · rw [hv]; intro e; injection e with e; omega
  refine ⟨hW.trans hS, ?_, ?_, fun f' hf' => ?_, hlt⟩
  · have e1 : w'.heap[B0]? = some (.cells #[c0, c1, c2, c3, c4, c5, av] 42 (0, 0)) := (G.block B0 (Nat.lt_of_lt_of_le hlt h.wr.size) (fun e => by have := hA B0 e.symm; omega)).trans h.b0
    exact setCell_heap e1
  · rw [List.length_append, List.map_append]
    exact own_wr O hS hlt
  · rcases List.mem_append.1 hf' with hm | hm
    · obtain ⟨r1, r2, q', r3, r4, r5⟩ := h.rbs f' hm
      exact one r1 r2 r3 r4 r5
    · obtain rfl : f' = f := by simpa using hm
      exact one hf hn hq h1 h2
theorem arr_cells {w : World} {b : Nat} {xs : List Nat} {t : TypeId} (h : w.heap[b]? = some (.cells (Arr .u8 xs) t (0, 0))) (j : Nat) (u : Value) (hj : (bs xs)[j]? = some u) : w.cell? ((⟨b, 0, none⟩ : Addr).add j) = some u := by
  have hadd : (⟨b, 0, none⟩ : Addr).add j = ⟨b, j, none⟩ := by unfold Addr.add; split <;> simp_all
  rw [hadd, cell_of_row w b j _ _ (0, 0) h]
  simpa [Arr, bs] using hj
set_option maxRecDepth 100000 in
set_option maxHeartbeats 2000000 in
theorem pick {wA w : World} {B0 : Nat} {c0 c1 c2 c3 c4 c5 av : Value} {fs : List Fld} {xs : List Nat} (h : Ad wA w B0 c0 c1 c2 c3 c4 c5 av fs) (hl : xs.length = 20) (hb : ∀ x ∈ xs, x < 256) (hn : fs.length ≤ 200) :
    Calls Tryz.prog 47 #[.agg (Arr .u8 xs), .pointer (some ⟨B0, 0, none⟩)] w fun e w' => ∃ av' f, e = .returned Value.nilIface ∧ f.xs = xs ∧ Ad wA w' B0 c0 c1 c2 c3 c4 c5 av' (fs ++ [f]) := by
  obtain ⟨i5, hi5, h50, h51, h52⟩ := info_parts info5
  obtain ⟨iS, hiS, hs0, hs1, hs2⟩ := info_parts infoSl
  have H := Lib.hid h
  clear h
  have HX := Lib.hid (H.out.below (w' := w.alloc (.cells (Arr .u8 xs) 85)) ((Below.refl _ _).alloc (Nat.le_refl _) _))
  have hX : (w.alloc (.cells (Arr .u8 xs) 85)).heap[w.heap.size]? = some (.cells (Arr .u8 xs) 85 (0, 0)) := heap_alloc_new _ _
  go_enter Tryz.func47, Tryz.ntmps47
  go_wp2_with fail
  generalize (w.alloc (.cells (Arr .u8 xs) 85)) = X at *
  have HY := Lib.hid (HX.out.below (Below.drew (Below.refl _ _)))
  have hY : X.drew.heap[w.heap.size]? = some (.cells (Arr .u8 xs) 85 (0, 0)) := hX
  refine Rg.regionK (fun w' => w'.cell? ⟨B0, 6, none⟩ = some av) (fun _ => True) (fun j => j == 8) 9 _ (by kernel_rfl) (by kernel_rfl) rfl ?_
  generalize X.drew = Y at *
  have c6 : Y.cell? ⟨B0, 6, none⟩ = some av := by simp [World.cell?, HY.out.b0]
  refine Rg.takeS (i := 0) (v := ?v0) rfl (by kernel_rfl) (by kernel_rfl) (by kernel_rfl) rfl (by kernel_rfl) (fun _ _ _ h => h) (Or.inl ⟨by rfl, ?h0⟩) c6 ?_
  case h0 => intro w hSw; go_simp; try with_reducible rfl
  simp only [Act.put, List.setIfInBounds_toArray, List.set_cons_zero, List.set_cons_succ]
  refine Rg.takeS (i := 1) (v := ?v1) rfl (by kernel_rfl) (by kernel_rfl) (by kernel_rfl) rfl (by kernel_rfl) (fun _ _ _ h => h) (Or.inl ⟨by rfl, ?h1⟩) c6 ?_
  case h1 => intro w hSw; go_simp; try with_reducible rfl
  simp only [Act.put, List.setIfInBounds_toArray, List.set_cons_zero, List.set_cons_succ]
  refine Rg.takeS (i := 3) (v := ?v3) rfl (by kernel_rfl) (by kernel_rfl) (by kernel_rfl) rfl (by kernel_rfl) (fun _ _ _ h => h) (Or.inl ⟨by rfl, ?h3⟩) c6 ?_
  case h3 => intro w hSw; go_simp; try with_reducible rfl
  simp only [Act.put, List.setIfInBounds_toArray, List.set_cons_zero, List.set_cons_succ]
  refine Rg.oneS (i := 2) rfl (by kernel_rfl) rfl ?_
  go_wp2_with fail
  have bA := HY.out.wr.size
  have HZ := Lib.hid (HY.out.below (w' := Y.alloc (.cells #[] 5)) ((Below.refl _ _).alloc (Nat.le_refl _) _))
  have z6 : (Y.alloc (.cells #[] 5)).cell? ⟨B0, 6, none⟩ = some av := by simp [World.cell?, HZ.out.b0]
  refine Rg.thence ⟨z6, ?_⟩
  have hZ : (Y.alloc (.cells #[] 5)).heap[w.heap.size]? = some (.cells (Arr .u8 xs) 85 (0, 0)) := ((Below.refl Y.heap.size Y).alloc (Nat.le_refl _) _).block _ (lt_of_obj hY) |>.trans hY
  have O0 := World.ownsRow_made (base := Y.heap.size) (e := 5) (size := 1) Y #[] 0 (Nat.le_refl _) (by unfold maxLen; omega) rfl
  refine Rg.oneS (i := 4) rfl (by kernel_rfl) rfl ?_
  go_wp2_with (at_builtin; refine wpList_append_own_at _ rfl (.tmp 6) (.tmp 7) 26 rfl Y.heap.size 5 i5 (.int .u8 0) 1 1 Tryz.underlying26 hi5 h50 h51 h52 rfl (by decide) (.slice (some ⟨Y.heap.size, 0, none⟩) 0 0) 0 [] rfl O0 ⟨w.heap.size, 0, none⟩ 20 20 (bs xs) rfl (by rw [bs_length]; exact hl) (arr_cells hZ) (bs_one xs) (by unfold maxLen; omega) (by omega) (by simp) ?_; intro v1 W1 O1' G1 _ _; rw [Nat.zero_add, List.nil_append] at O1'; have O1 := Lib.hid O1')
  have B1 := Lib.hid (((Below.refl Y.heap.size Y).alloc (Nat.le_refl _) (.cells #[] 5)).grown G1 (by simp) (fun k hk => by simp [Value.ownBlock] at hk; omega))
  have H1 := Lib.hid (HY.out.below B1.out)
  obtain ⟨q, cq, rfl, hq1, hq2, hq3, hq4⟩ := own_form O1.out (by omega)
  have R1 := Lib.hid (RB.of_own O1.out hb)
  have d6 : W1.cell? ⟨B0, 6, none⟩ = some av := by simp [World.cell?, H1.out.b0]
  refine Rg.thence ⟨d6, ?_⟩
  clear O1 O1' G1 O0 hZ HZ
  refine Rg.oneS (i := 5) rfl (by kernel_rfl) rfl ?_
  go_wp2_with fail
  have H2 := Lib.hid (H1.out.below (w' := W1.alloc (.cells #[.slice (some ⟨q, 0, none⟩) 20 cq] 26)) ((Below.refl _ _).alloc (Nat.le_refl _) _))
  have R2 := Lib.hid (R1.out.below (w' := W1.alloc (.cells #[.slice (some ⟨q, 0, none⟩) 20 cq] 26)) ((Below.refl _ _).alloc (Nat.le_refl _) _) (Nat.le_refl _))
  have e6 : (W1.alloc (.cells #[.slice (some ⟨q, 0, none⟩) 20 cq] 26)).cell? ⟨B0, 6, none⟩ = some av := by simp [World.cell?, H2.out.b0]
  refine Rg.thence ⟨e6, ?_⟩
  refine Rg.oneS (i := 6) rfl (by kernel_rfl) rfl ?_
  go_wp2_with (at_builtin; refine wpList_append_own_at _ rfl (.tmp 5) (.tmp 9) 22 rfl wA.heap.size 26 iS (.slice none 0 0) 1 24 Tryz.underlying22 hiS hs0 hs1 hs2 rfl (by decide) av fs.length (fs.map Fld.v) rfl H2.out.own ⟨W1.heap.size, 0, none⟩ 1 1 [.slice (some ⟨q, 0, none⟩) 20 cq] rfl rfl (cell_one_new _ _ _) (by simp [Value.oneCell']) (by unfold maxLen; omega) (by omega) H2.out.wr.size ?_; intro v2 W3 O3' G3' _ hv'; have O3 := Lib.hid O3'; have G3 := Lib.hid G3'; have hv := Lib.hid hv'; clear O3' G3' hv')
  have P3 := Lib.hid (H2.out.push ⟨some ⟨q, 0, none⟩, 20, cq, xs⟩ R2.out rfl rfl (Nat.le_trans bA hq1) (fun e => by have := (HY.out.own.lt q e).2; omega) O3.out G3.out hv.out)
  have f6 : W3.cell? ⟨B0, 6, none⟩ = some av := G3.out.cell e6 (fun e => by have := (H2.out.own.lt B0 e.symm).1; have := H2.out.lt; omega)
  have f0 : W3.frozen? ⟨B0, 6, none⟩ = false := by
    have : W3.heap[B0]? = _ := (G3.out.block B0 (Nat.lt_of_lt_of_le H2.out.lt H2.out.wr.size) (fun e => by have := (H2.out.own.lt B0 e.symm).1; have := H2.out.lt; omega)).trans H2.out.b0
    simp [World.frozen?, this]
  obtain ⟨g2, k2, rfl, _⟩ := own_form O3.out (by omega)
  refine Rg.thence ⟨f6, ?_⟩
  refine Rg.oneS (i := 7) rfl (by kernel_rfl) rfl ?_
  go_wp2_with fail
  refine Rg.thence ⟨f6, ?_⟩
  refine Rg.oneT (i := 8) rfl (by kernel_rfl) rfl ?_
  go_wp2_with fail
  refine Rg.thence ⟨trivial, Rg.allUp (by kernel_rfl) ?_ _⟩
  go_wp2_with fail
  go_ret
  exact ⟨_, _, rfl, rfl, P3.out⟩
end Go.Proofs.YtegohkgmamnkdaaGreat.Msg
