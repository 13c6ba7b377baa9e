/- What is told of the acts on a set, walked. Condition: at most 60 acts. -/
import Derived.Test.YtbenpkonepfipaaSetL
import Derived.Test.YtbenpkonepfipaaActs
import Derived.Test.YtbenpkonepfipaaQt
set_option linter.unusedVariables false
namespace Go.Proofs.Ytbenpkonepfipaa.Sets
open Go.ChangeShapes Go.WideShapes Go.ChangeAt Go.RowKit Go.Maps
open Go.Proofs.Ytbenpkonepfipaa.Dig Go.Proofs.Ytbenpkonepfipaa.Mem Go.Proofs.Ytbenpkonepfipaa.Rb Go.Proofs.Ytbenpkonepfipaa.Ord Go.Proofs.Ytbenpkonepfipaa.Acts

/-- The set behind the first acts. -/
def play (xs : List ActV) : Nat → List (List Nat)
  | 0 => []
  | i + 1 => stepL (play xs i) (xs.getD i noAct).k (h20 (xs.getD i noAct).ks)
theorem play_length (xs : List ActV) : ∀ i, (play xs i).length ≤ i
  | 0 => Nat.le_refl _
  | i + 1 => by
    have h1 := play_length xs i
    have h2 := stepL_length (play xs i) (xs.getD i noAct).k (h20 (xs.getD i noAct).ks)
    unfold play
    omega
def okK (k : Int) : Bool := decide (k = 1) || decide (k = 2) || decide (k = 3) || decide (k = 4) || decide (k = 5)
/-- What is told of act i: its eight cells. -/
def seen (xs : List ActV) (i : Nat) : List Value :=
  [.bool (okK (xs.getD i noAct).k), .bool (decide ((xs.getD i noAct).k = 3) && decide (h20 (xs.getD i noAct).ks ∈ play xs i)), .slice none 0 0, .slice none 0 0, .slice none 0 0, .string ⟨#[]⟩,
   .int .i64 (((play xs (i + 1)).length : Nat) : Int), .int .i64 0]

theorem splice_h20 (xs : List Nat) : splice (bs (List.replicate 20 0)) 0 (bs (xs.take 20)) = bs (h20 xs) := by
  unfold splice h20
  rw [bs_append, List.take_zero, List.nil_append, Nat.zero_add, bs_length, List.length_take]
  congr 1
  simp only [bs, ← List.map_drop, List.drop_replicate]
  congr 2
  omega
/-- A copy into an array of twenty noughts. -/
theorem copy20 {P : Program} {ops : Array Oper} {rest : List Oper} {o : Oper} {a : Act} {Q : Exit → Act → World → Prop} {w : World} {g t : Nat} (hrow : w.heap[g]? = some (.cells Z20 t (0, 0))) (hgd : o.guard = none) (d s : Operand) (dT sT : TypeId)
    (ho : o.op = .call { callee := .builtin .copy, args := #[d, s], argTypes := #[dT, sT] })
    (elem : TypeId) (hu : P.underlying dT = some (.slice elem)) (hsz : (P.info? elem).map (·.size) = some 1) (C : Nat) (hd : a.eval d = .slice (some ⟨g, 0, none⟩) 20 C)
    (sp : Option Addr) (n c : Nat) (xs : List Nat) (hs : a.eval s = .slice sp n c) (hr : RB w sp n c xs)
    (h : ∀ w' m, Hid (w'.heap[g]? = some (.cells (Arr .u8 (h20 xs)) t (0, 0))) → Below g w w' → wpList P ops Q rest (a.put o.dst (goInt m)) w') : wpList P ops Q (o :: rest) a w := by
  have hl := hr.len
  have hlt : (xs.take 20).length = Nat.min n 20 := by rw [List.length_take, hl, Nat.min_comm]
  refine wpList_copy_splice hgd d s dT sT ho elem hu hsz _ sp 20 C n c hd hs g 0 (bs (List.replicate 20 0)) t hrow (bs (xs.take 20)) (by rw [bs_length, hlt]) (fun h0 => ⟨rfl, ?_⟩) (by rw [bs_length, bs_length, List.length_take, List.length_replicate]; omega) (fun v hv => ?_) g w (Below.refl _ _) (Nat.le_refl _) ?_
  · rw [bs_length] at h0
    obtain ⟨b, of, rfl, hb⟩ := hr.at_ (by rw [List.length_take] at h0; omega)
    refine ⟨_, rfl, fun j v hj => ?_⟩
    have hj' : j < (xs.take 20).length := by
      have := (List.getElem?_eq_some_iff.1 hj).1
      rwa [bs_length] at this
    rw [bs_get hj'] at hj
    have hj2 : j < xs.length := by rw [List.length_take] at hj'; omega
    have := hb j hj2
    have e : (xs.take 20).getD j 0 = xs.getD j 0 := by
      rw [List.getD_eq_getElem?_getD, List.getD_eq_getElem?_getD, List.getElem?_take_of_lt (by rw [List.length_take] at hj'; omega)]
    rw [e] at hj
    unfold Addr.add
    by_cases h00 : j = 0
    · subst h00; simpa using this.trans hj
    · simp only [if_neg h00]; exact this.trans hj
  · obtain ⟨x, _, rfl⟩ := List.mem_map.1 hv
    rfl
  · intro w' h1 h2
    have h3 := h1
    rw [splice_h20] at h3
    exact h w' _ h3 h2

theorem info63 : (Try.prog.info? 63).map (fun i => (i.zero, i.size, i.bytes)) = some (some (.agg #[.bool false, .bool false, .slice none 0 0, .slice none 0 0, .slice none 0 0, .string ByteArray.empty, .int .i64 0, .int .i64 0]), 8, 112) := by kernel_rfl

theorem size5 : (Try.prog.info? 5).map (·.size) = some 1 := by kernel_rfl
theorem has_below {w w' : World} {b n B : Nat} {D : DataW Unit} (h : Has w b n D) (hb : Below B w w') (hlt : b < B) : Has w' b n D := by
  obtain ⟨es, clock, h1, h2⟩ := h
  exact ⟨es, clock, (hb.block b hlt).trans h1, h2⟩
theorem rowN_below {w w' : World} {B n s : Nat} {e : TypeId} {v : Value} {xs : List Value} (h : w.ownsRow B e s v n xs) (hb : Below w.heap.size w w') : w'.ownsRow B e s v n xs := by
  refine ⟨h.1, ?_⟩
  rcases h.2 with h0 | ⟨g, cap, cur, hv, hB, hh, hr⟩
  · exact Or.inl h0
  · have hlt : g < w.heap.size := by
      rcases Nat.lt_or_ge g w.heap.size with h' | h'
      · exact h'
      · rw [Array.getElem?_eq_none h'] at hh; cases hh
    exact Or.inr ⟨g, cap, cur, hv, hB, (hb.block g hlt).trans hh, hr⟩
theorem rowN_grown {w w' : World} {B n s b : Nat} {e : TypeId} {v : Value} {xs : List Value} (h : w.ownsRow B e s v n xs) (hb : w.grownBy w' (some b)) (hlt : b < B) : w'.ownsRow B e s v n xs := by
  refine ⟨h.1, ?_⟩
  rcases h.2 with h0 | ⟨g, cap, cur, hv, hB, hh, hr⟩
  · exact Or.inl h0
  · have hlt : g < w.heap.size := by
      rcases Nat.lt_or_ge g w.heap.size with h' | h'
      · exact h'
      · rw [Array.getElem?_eq_none h'] at hh; cases hh
    exact Or.inr ⟨g, cap, cur, hv, hB, (hb.block g hlt (by intro e; have := Option.some.inj e; omega)).trans hh, hr⟩

theorem info63s : (Try.prog.info? 63).map (·.size) = some 8 := by kernel_rfl
abbrev S8 (p q : Bool) (m : Int) : Array Value := #[.bool p, .bool q, .slice none 0 0, .slice none 0 0, .slice none 0 0, .string ⟨#[]⟩, .int .i64 m, .int .i64 0]
theorem info63S (p q : Bool) (m : Int) : (Try.prog.info? 63).map (·.size) = some (S8 p q m).size := info63s
theorem heap_new_set (w : World) (a : Addr) (u : Value) (o : Obj) : ((w.setCell a u).alloc o).heap[w.heap.size]? = some o := by
  have := heap_alloc_new (w.setCell a u) o
  rwa [show (w.setCell a u).heap.size = w.heap.size by simp [World.setCell]] at this
theorem heap_new_set2 (w : World) (a b : Addr) (u v : Value) (o : Obj) : (((w.setCell a u).setCell b v).alloc o).heap[w.heap.size]? = some o := by
  have := heap_new_set (w.setCell a u) b v o
  rwa [show (w.setCell a u).heap.size = w.heap.size by simp [World.setCell]] at this
theorem seen_more (xs : List ActV) (k : Nat) : (List.range (k + 1)).flatMap (seen xs) = (List.range k).flatMap (seen xs) ++ seen xs k := by
  rw [List.range_succ, List.flatMap_append]; simp
theorem rel_none {D : DataW Unit} (h : Canon D) (hn : ∀ l, Maps.has D l = false) : Rel D [] ∧ Maps.size D = 0 := by
  obtain ⟨es, rfl, _, hk⟩ := h
  have e : es = [] := by
    cases es with
    | nil => rfl
    | cons y r =>
      have := hn y.1
      rw [has_eq] at this
      simp [WideAt.sameKey_self (hk y (List.mem_cons_self ..))] at this
  subst e
  exact ⟨rel_empty, rfl⟩
theorem row_setCell {w : World} {B n s b j : Nat} {e : TypeId} {v u : Value} {xs : List Value} (h : w.ownsRow B e s v n xs) (hne : ∀ i, v.ownBlock = some i → i ≠ b) : (w.setCell ⟨b, j, none⟩ u).ownsRow B e s v n xs := by
  refine ⟨h.1, ?_⟩
  rcases h.2 with h0 | ⟨g, cap, cur, hv, hB, hh, hr⟩
  · exact Or.inl h0
  · refine Or.inr ⟨g, cap, cur, hv, hB, ?_, hr⟩
    have : b ≠ g := fun e => hne g (by rw [hv]; rfl) e.symm
    simpa [World.setCell, Array.getElem?_modify, this] using hh
theorem seen_set {w : World} {g j : Nat} {S : Array Value} {u : Value} (h : w.heap[g]? = some (.cells S 63 (0, 0))) : (w.setCell ⟨g, j, none⟩ u).heap[g]? = some (.cells (S.setIfInBounds j u) 63 (0, 0)) := by
  simp [World.setCell, Array.getElem?_modify, h]
/-- The world behind an act. -/
structure Mid (w w3 w4 : World) (S : Array Value) (v : Value) (k : Nat) (L : List Value) (D : DataW Unit) (P : List (List Nat)) : Prop where
  seen : w4.heap[w3.heap.size]? = some (.cells S 63 (0, 0))
  own : w4.ownsRow (w.heap.size + 1) 63 8 v k L
  far : ∀ i, v.ownBlock = some i → w.heap.size + 1 ≤ i ∧ i < w3.heap.size
  bel : Below w.heap.size w w4
  lt : w3.heap.size + 1 ≤ w4.heap.size
  set : Has w4 w.heap.size (k + 1) D
  rel : Rel D P
theorem Mid.cellAt {w w3 w4 : World} {S : Array Value} {v u : Value} {k j : Nat} {L : List Value} {D : DataW Unit} {P : List (List Nat)} (h : Mid w w3 w4 S v k L D P) (hj : S[j]? = some u) : w4.cell? ⟨w3.heap.size, j, none⟩ = some u := by
  simp only [World.cell?, h.seen]; exact hj
theorem Mid.frozenAt {w w3 w4 : World} {S : Array Value} {v : Value} {k j : Nat} {L : List Value} {D : DataW Unit} {P : List (List Nat)} (h : Mid w w3 w4 S v k L D P) : w4.frozen? ⟨w3.heap.size, j, none⟩ = false := by
  simp [World.frozen?, h.seen]
theorem Mid.setCell {w w3 w4 : World} {S : Array Value} {v u : Value} {k j : Nat} {L : List Value} {D : DataW Unit} {P : List (List Nat)} (h : Mid w w3 w4 S v k L D P) (hw : w.heap.size < w3.heap.size) : Mid w w3 (w4.setCell ⟨w3.heap.size, j, none⟩ u) (S.setIfInBounds j u) v k L D P :=
  ⟨seen_set h.seen, row_setCell h.own (fun i hi => by have := (h.far i hi).2; omega), h.far, h.bel.setCell (by show w.heap.size ≤ w3.heap.size; omega) _, by have := h.lt; simpa [World.setCell] using this, h.set.setCell (by simp; omega) _, h.rel⟩
theorem mid_start {w w3 : World} {S : Array Value} {v : Value} {k : Nat} {L : List Value} {D : DataW Unit} {P : List (List Nat)} (hw : w.heap.size < w3.heap.size) (hO : w3.ownsRow (w.heap.size + 1) 63 8 v k L) (hf : ∀ i, v.ownBlock = some i → i < w3.heap.size) (hB : Below w.heap.size w w3) (hS : Has w3 w.heap.size k D) (hR : Rel D P) :
    Mid w w3 (w3.alloc (.cells S 63)) S v k L D P :=
  ⟨heap_alloc_new _ _, hO.alloc _, fun i hi => ⟨(hO.lt i hi).1, hf i hi⟩, hB.alloc (by omega) _, by simp, (hS.mono (Nat.le_succ _)).alloc _, hR⟩
/-- A call that may have turned the set alone. -/
theorem Mid.later {w w3 w4 w5 : World} {S : Array Value} {v : Value} {k : Nat} {L : List Value} {D D' : DataW Unit} {P P' : List (List Nat)} (h : Mid w w3 w4 S v k L D P) (hw : w.heap.size < w3.heap.size) (hg : w4.grownBy w5 (some w.heap.size)) (hS : Has w5 w.heap.size (k + 1) D') (hR : Rel D' P') : Mid w w3 w5 S v k L D' P' :=
  ⟨(hg.block _ (by have := h.lt; omega) (by intro e; have := Option.some.inj e; omega)).trans h.seen, rowN_grown h.own hg (Nat.lt_succ_self _), h.far, h.bel.grown hg h.bel.size (fun j hj => by cases hj; exact Nat.le_refl _), Nat.le_trans h.lt hg.size, hS, hR⟩
theorem Mid.below {w w3 w4 w5 : World} {S : Array Value} {v : Value} {k : Nat} {L : List Value} {D : DataW Unit} {P : List (List Nat)} (h : Mid w w3 w4 S v k L D P) (hb : Below w4.heap.size w4 w5) : Mid w w3 w5 S v k L D P :=
  ⟨(hb.block _ (by have := h.lt; omega)).trans h.seen, rowN_below h.own hb, h.far, h.bel.trans (hb.mono h.bel.size), Nat.le_trans h.lt hb.size, has_below h.set hb h.set.lt, h.rel⟩
/-- What has been told is laid behind the rest. -/
theorem Mid.ends {w w3 w4 w6 : World} {S : Array Value} {v : Value} {k : Nat} {L : List Value} {D : DataW Unit} {P : List (List Nat)} {o : Obj} (h : Mid w w3 w4 S v k L D P) (hg : (w4.alloc o).grownBy w6 v.ownBlock) : Has w6 w.heap.size (k + 1) D ∧ Rel D P ∧ Below w.heap.size w w6 :=
  ⟨(h.set.alloc o).kept hg (fun e => by have := (h.far _ e.symm).1; omega), h.rel, (h.bel.alloc h.bel.size o).grown hg (Nat.le_trans h.bel.size (by simp)) (fun j hj => by have := (h.far j hj).1; omega)⟩

abbrev C7 (x : ActV) : Array Value := #[.int .i64 x.k, .int .i64 x.p, .int .i64 x.q, .slice x.ka x.kn x.kc, .slice x.va x.vn x.vc, .slice x.sa x.sn x.sc, .slice x.ta x.tn x.tc]

set_option maxRecDepth 100000 in
set_option maxHeartbeats 1000000 in
theorem hashSetPlay (w : World) (a : Option Addr) (n c : Nat) (xs : List ActV) (h : Acts w a n c xs) (hn : n ≤ 60) :
    Calls Try.prog 27 #[.slice a n c] w fun e w' => ∃ v, e = .returned v ∧ w'.ownsRow (w.heap.size + 1) 63 8 v n ((List.range n).flatMap (seen xs)) ∧ Below w.heap.size w w' := by
  have H := Lib.hid h
  obtain ⟨i63, hi63, hz0, hz1, hz2⟩ := info_parts info63
  have hc := h.le
  have ht := h.top
  unfold maxLen at ht
  clear h
  go_enter Try.func27, Try.ntmps27
  go_wp2_with (go_at_call 53; (with_reducible refine (newSet _).mono ?_); rintro e w0 ⟨rfl, h0, hb0⟩; have H0 := Lib.hid h0; have B0 := Lib.hid hb0; clear h0 hb0)
  go_loopw [4, 12] (fun lv iv wr => ∃ (k : Nat) (D : DataW Unit), k ≤ n ∧ iv = .int .i64 (k : Int) ∧ wr.ownsRow (w.heap.size + 1) 63 8 lv k ((List.range k).flatMap (seen xs)) ∧ Has wr w.heap.size k D ∧ Rel D (play xs k) ∧ Below w.heap.size w wr) (fun _ iv _ => n - (intOf iv).toNat)
  case atStart => exact ⟨0, _, by omega, rfl, World.ownsRow_nil _ _ _ _, H0.out, rel_empty, B0.out⟩
  case round =>
    obtain ⟨k, D, hk, rfl, hO, hS, hR, hB⟩ := hrel
    have O1 := Lib.hid hO
    have S1 := Lib.hid hS
    have R1 := Lib.hid hR
    have B1 := Lib.hid hB
    have hws := hB.size
    have hsl := hS.lt
    by_cases hlt : k < n
    · have HA := H.out.below hB
      obtain ⟨b, o, ea, hb2, hcell⟩ := HA.at_ (by omega)
      subst ea
      obtain ⟨x, hx⟩ : ∃ x, x = xs.getD k noAct := ⟨_, rfl⟩
      have hat := hcell k hlt
      have hok := HA.ok (xs.getD k noAct) (act_mem (by rw [HA.len]; exact hlt))
      rw [← hx] at hat hok
      obtain ⟨c0, c1, c2, c3, c4, c5, c6⟩ := hat
      have HX := Lib.hid hx
      have OK := Lib.hid hok
      clear hcell hx hok HA hO hS hR hB
      -- ROUND
      go_wp2_with fail
      generalize hW : (wr.alloc (.cells (C7 x) 59)).alloc (.cells Z20 64) = W2
      have hrow : W2.heap[wr.heap.size + 1]? = some (.cells Z20 64 (0, 0)) := by rw [← hW]; exact heap_new2 _ _ _
      have hact : W2.heap[wr.heap.size]? = some (.cells (C7 x) 59 (0, 0)) := by rw [← hW]; exact heap_old2 _ _ _
      have hbW : Below wr.heap.size wr W2 := by rw [← hW]; exact ((Below.refl _ _).alloc (Nat.le_refl _) _).alloc (by simp) _
      have hsW : wr.heap.size + 2 ≤ W2.heap.size := by rw [← hW]; simp
      have k3 : W2.cell? ⟨wr.heap.size, 3, none⟩ = some (.slice x.ka x.kn x.kc) := by simp only [World.cell?, hact]; rfl
      have k0 : W2.cell? ⟨wr.heap.size, 0, none⟩ = some (.int .i64 x.k) := by simp only [World.cell?, hact]; rfl
      have ROW := Lib.hid hrow
      have BW := Lib.hid hbW
      clear hW hrow hact hbW
      refine region_quiet_tail 3 (C := fun w' => ∃ m, w' = W2.drewN m) (by kernel_rfl) (by kernel_rfl) ⟨1, rfl⟩ ?_
      simp only [List.take_succ_cons, List.take_zero, List.drop_succ_cons, List.drop_zero]
      go_big_quiet_step (fail)
      go_big_quiet_step (fail)
      go_big_quiet_step (fail)
      refine wpQuiet_nil ?_
      rintro _ ⟨m, rfl⟩
      have hbd := bdn BW.out m
      have RK := Lib.hid (OK.out.key.below hbd (Nat.le_refl _))
      have KEY := Lib.hid (h20_key OK.out.key.byte)
      have KL := Lib.hid (show (Arr .u8 (h20 x.ks)).size = 20 by have := (h20_key OK.out.key.byte).1; simp [Arr, this])
      refine copy20 (g := wr.heap.size + 1) (t := 64) ROW.out rfl (.tmp 16) (.tmp 18) 27 27 rfl 5 Try.underlying27 size5 20 rfl _ _ _ _ rfl RK.out ?_
      intro w3 mm hr3 hb3
      have hbel3 := hbd.trans (hb3.mono (by omega))
      have g0 : ∀ O, (w3.alloc O).cell? ⟨wr.heap.size, 0, none⟩ = some (.int .i64 x.k) := fun O => by
        have := (hb3.cell (p := ⟨wr.heap.size, 0, none⟩) (Nat.lt_succ_self _)).trans k0
        rw [World.cell?_alloc_lt w3 O _ (lt_of_cell this)]
        exact this
      have hs3 : wr.heap.size + 2 ≤ w3.heap.size := Nat.le_trans hsW hb3.size
      have r3 : ∀ O, (w3.alloc O).heap[wr.heap.size + 1]? = some (.cells (Arr .u8 (h20 x.ks)) 64 (0, 0)) := fun O => (Below.heap_alloc _ _ _ (by omega)).trans hr3.out
      have R3 := Lib.hid r3
      have B3 := Lib.hid hbel3
      have S3 := Lib.hid (has_below S1.out hbel3 hsl)
      have O3 := Lib.hid (rowN_below O1.out hbel3)
      have B3w := Lib.hid (B1.out.trans (hbel3.mono hws))
      have FAR := Lib.hid fun i (hi : u4.ownBlock = some i) => Nat.lt_of_lt_of_le (O1.out.lt i hi).2 (show wr.heap.size ≤ w3.heap.size by omega)
      have SZ := Lib.hid (size64' (A := Arr .u8 (h20 x.ks)) KL.out)
      have HP := Lib.hid (show play xs (k + 1) = stepL (play xs k) x.k (h20 x.ks) by rw [play, ← HX.out])
      have HSN := Lib.hid (show seen xs k = [.bool (okK x.k), .bool (decide (x.k = 3) && decide (h20 x.ks ∈ play xs k)), .slice none 0 0, .slice none 0 0, .slice none 0 0, .string ⟨#[]⟩, .int .i64 (((play xs (k + 1)).length : Nat) : Int), .int .i64 0] by rw [seen, ← HX.out])
      have hw3 : w.heap.size < w3.heap.size := by omega
      have PL := Lib.hid (play_length xs (k + 1))
      clear hr3 hb3 r3 hbd hbel3 k0 k3
      have M0 := Lib.hid (mid_start (S := S8 true false 0) hw3 O3.out FAR.out B3w.out S3.out R1.out)
      have TD := Lib.hid (S1.out.tidy law)
      by_cases h1 : x.k = 1
      · have hrel : Rel (D.put (kl (h20 x.ks)) unit) (play xs (k + 1)) := by rw [HP.out, h1]; exact rel_put R1.out TD.out KEY.out
        have REL := Lib.hid hrel
        clear hrel
        go_wp2_with (first
          | (with_reducible refine wpList_load_row rfl 64 (.tmp 7) rfl (wr.heap.size + 1) rfl 64 (Arr .u8 (h20 x.ks)) (0, 0) _ (R3.out _) Try.underlying64 rfl SZ.out ?_)
          | (go_at_call 54; (with_reducible refine (insert _ w.heap.size (k + 1) D (Arr .u8 (h20 x.ks)) (kl (h20 x.ks)) KL.out (kl_key KEY.out) M0.out.set (by unfold maxLen; omega)).mono ?_); rintro e w4 ⟨rfl, h4, hg4⟩; have M4 := Lib.hid (M0.out.later hw3 hg4 ((tight h4).mono (by rw [REL.out.size]; exact PL.out)) REL.out); have M5 := Lib.hid (M4.out.setCell (j := 6) (u := .int .i64 ((Maps.size (D.put (kl (h20 x.ks)) unit) : Nat) : Int)) hw3); have L5 := Lib.hid (show (w4.setCell ⟨w3.heap.size, 6, none⟩ (.int .i64 ((Maps.size (D.put (kl (h20 x.ks)) unit) : Nat) : Int))).heap[w3.heap.size]? = some (.cells (S8 true false ((Maps.size (D.put (kl (h20 x.ks)) unit) : Nat) : Int)) 63 (0, 0)) from M5.out.seen); have f6 := M4.out.cellAt (j := 6) (u := .int .i64 0) rfl; have z6 := M4.out.frozenAt (j := 6); have SE := Lib.hid M4.out.rel.size; clear h4 hg4)
          | (go_at_call 60; (with_reducible refine (sizeOfSet _ w.heap.size (k + 1) _ M4.out.set).mono ?_); rintro e w5 ⟨rfl, rfl⟩)
          | (with_reducible refine wpList_load_row rfl 63 (.tmp 8) rfl w3.heap.size rfl 63 (S8 true false ((Maps.size (D.put (kl (h20 x.ks)) unit) : Nat) : Int)) (0, 0) _ L5.out Try.underlying63 rfl (info63S _ _ _) ?_)
          | (at_builtin; refine wpList_append_lies _ rfl (.tmp 53) (.tmp 55) 53 rfl (w.heap.size + 1) 63 i63 _ 8 112 Try.underlying53 hi63 hz0 hz1 hz2 rfl (by decide) _ k _ rfl (M5.out.own.alloc _) _ 1 1 (S8 true false ((Maps.size (D.put (kl (h20 x.ks)) unit) : Nat) : Int)).toList rfl rfl (World.news_of_block (heap_new_set w4 _ _ _)) (by simp [Value.oneCell']) (by decide) (by unfold maxLen; omega) (by omega) (by have := M5.out.lt; simp [World.setCell] at this ⊢; omega) _ rfl ?_; intro g cap w6 hown hgrow hat hlt6))
        go_roundw
        case rel =>
          obtain ⟨s1, s2, s3⟩ := M5.out.ends hgrow
          refine ⟨k + 1, _, by omega, by go_num, ?_, s1, s2, s3⟩
          have e : seen xs k = (S8 true false ((Maps.size (D.put (kl (h20 x.ks)) unit) : Nat) : Int)).toList := by rw [HSN.out, SE.out]; simp [okK, h1]
          rw [seen_more, e]
          exact hown
        case measure => simp [intOf]; omega
      by_cases h2 : x.k = 2
      · have hrel : Rel (D.del (kl (h20 x.ks))) (play xs (k + 1)) := by rw [HP.out, h2]; exact rel_del R1.out TD.out KEY.out
        have REL := Lib.hid hrel
        clear hrel
        go_wp2_with (first
          | (with_reducible refine wpList_load_row rfl 64 (.tmp 7) rfl (wr.heap.size + 1) rfl 64 (Arr .u8 (h20 x.ks)) (0, 0) _ (R3.out _) Try.underlying64 rfl SZ.out ?_)
          | (go_at_call 55; (with_reducible refine (remove _ w.heap.size (k + 1) D (Arr .u8 (h20 x.ks)) (kl (h20 x.ks)) KL.out (kl_key KEY.out) M0.out.set).mono ?_); rintro e w4 ⟨rfl, h4, hg4⟩; have M4 := Lib.hid (M0.out.later hw3 hg4 ((tight h4).mono (by rw [REL.out.size]; exact PL.out)) REL.out); have M5 := Lib.hid (M4.out.setCell (j := 6) (u := .int .i64 ((Maps.size (D.del (kl (h20 x.ks))) : Nat) : Int)) hw3); have L5 := Lib.hid (show (w4.setCell ⟨w3.heap.size, 6, none⟩ (.int .i64 ((Maps.size (D.del (kl (h20 x.ks))) : Nat) : Int))).heap[w3.heap.size]? = some (.cells (S8 true false ((Maps.size (D.del (kl (h20 x.ks))) : Nat) : Int)) 63 (0, 0)) from M5.out.seen); have f6 := M4.out.cellAt (j := 6) (u := .int .i64 0) rfl; have z6 := M4.out.frozenAt (j := 6); have SE := Lib.hid M4.out.rel.size; clear h4 hg4)
          | (go_at_call 60; (with_reducible refine (sizeOfSet _ w.heap.size (k + 1) _ M4.out.set).mono ?_); rintro e w5 ⟨rfl, rfl⟩)
          | (with_reducible refine wpList_load_row rfl 63 (.tmp 8) rfl w3.heap.size rfl 63 (S8 true false ((Maps.size (D.del (kl (h20 x.ks))) : Nat) : Int)) (0, 0) _ L5.out Try.underlying63 rfl (info63S _ _ _) ?_)
          | (at_builtin; refine wpList_append_lies _ rfl (.tmp 53) (.tmp 55) 53 rfl (w.heap.size + 1) 63 i63 _ 8 112 Try.underlying53 hi63 hz0 hz1 hz2 rfl (by decide) _ k _ rfl (M5.out.own.alloc _) _ 1 1 (S8 true false ((Maps.size (D.del (kl (h20 x.ks))) : Nat) : Int)).toList rfl rfl (World.news_of_block (heap_new_set w4 _ _ _)) (by simp [Value.oneCell']) (by decide) (by unfold maxLen; omega) (by omega) (by have := M5.out.lt; simp [World.setCell] at this ⊢; omega) _ rfl ?_; intro g cap w6 hown hgrow hat hlt6))
        go_roundw
        case rel =>
          obtain ⟨s1, s2, s3⟩ := M5.out.ends hgrow
          refine ⟨k + 1, _, by omega, by go_num, ?_, s1, s2, s3⟩
          have e : seen xs k = (S8 true false ((Maps.size (D.del (kl (h20 x.ks))) : Nat) : Int)).toList := by rw [HSN.out, SE.out]; simp [okK, h2]
          rw [seen_more, e]
          exact hown
        case measure => simp [intOf]; omega
      by_cases h3 : x.k = 3
      · have hrel : Rel D (play xs (k + 1)) := by rw [HP.out, h3]; exact R1.out
        have REL := Lib.hid hrel
        obtain ⟨q, hq⟩ : ∃ q, q = Maps.has D (kl (h20 x.ks)) := ⟨_, rfl⟩
        have HQ := Lib.hid (hq.trans (R1.out.has _ KEY.out))
        have K56 := Lib.hid (asked _ w.heap.size (k + 1) D (Arr .u8 (h20 x.ks)) (kl (h20 x.ks)) KL.out (kl_key KEY.out) M0.out.set)
        rw [← hq] at K56
        clear hrel hq
        go_wp2_with (first
          | (with_reducible refine wpList_load_row rfl 64 (.tmp 7) rfl (wr.heap.size + 1) rfl 64 (Arr .u8 (h20 x.ks)) (0, 0) _ (R3.out _) Try.underlying64 rfl SZ.out ?_)
          | (go_at_call 56; (with_reducible refine K56.out.mono ?_); rintro e w4 ⟨rfl, hg4⟩; have M3 := Lib.hid (M0.out.later hw3 (hg4.but _) (M0.out.set.kept hg4 (by simp)) REL.out); have f1 := M3.out.cellAt (j := 1) (u := .bool false) rfl; have z1 := M3.out.frozenAt (j := 1); have M4 := Lib.hid (M3.out.setCell (j := 1) (u := .bool q) hw3); have M5 := Lib.hid (M4.out.setCell (j := 6) (u := .int .i64 ((Maps.size D : Nat) : Int)) hw3); have L5 := Lib.hid (show ((w4.setCell ⟨w3.heap.size, 1, none⟩ (.bool q)).setCell ⟨w3.heap.size, 6, none⟩ (.int .i64 ((Maps.size D : Nat) : Int))).heap[w3.heap.size]? = some (.cells (S8 true q ((Maps.size D : Nat) : Int)) 63 (0, 0)) from M5.out.seen); have f6 := M4.out.cellAt (j := 6) (u := .int .i64 0) rfl; have z6 := M4.out.frozenAt (j := 6); have SE := Lib.hid M4.out.rel.size; clear hg4)
          | (go_at_call 60; (with_reducible refine (sizeOfSet _ w.heap.size (k + 1) _ M4.out.set).mono ?_); rintro e w5 ⟨rfl, rfl⟩)
          | (with_reducible refine wpList_load_row rfl 63 (.tmp 8) rfl w3.heap.size rfl 63 (S8 true q ((Maps.size D : Nat) : Int)) (0, 0) _ L5.out Try.underlying63 rfl (info63S _ _ _) ?_)
          | (at_builtin; refine wpList_append_lies _ rfl (.tmp 53) (.tmp 55) 53 rfl (w.heap.size + 1) 63 i63 _ 8 112 Try.underlying53 hi63 hz0 hz1 hz2 rfl (by decide) _ k _ rfl (M5.out.own.alloc _) _ 1 1 (S8 true q ((Maps.size D : Nat) : Int)).toList rfl rfl (World.news_of_block (heap_new_set2 w4 _ _ _ _ _)) (by simp [Value.oneCell']) (by decide) (by unfold maxLen; omega) (by omega) (by have := M5.out.lt; simp [World.setCell] at this ⊢; omega) _ rfl ?_; intro g cap w6 hown hgrow hat hlt6))
        go_roundw
        case rel =>
          obtain ⟨s1, s2, s3⟩ := M5.out.ends hgrow
          refine ⟨k + 1, _, by omega, by go_num, ?_, s1, s2, s3⟩
          have e : seen xs k = (S8 true q ((Maps.size D : Nat) : Int)).toList := by rw [HSN.out, SE.out]; simp [okK, h3, HQ.out]
          rw [seen_more, e]
          exact hown
        case measure => simp [intOf]; omega
      by_cases h4 : x.k = 4
      · have hrel : Rel D (play xs (k + 1)) := by rw [HP.out, h4]; exact R1.out
        have REL := Lib.hid hrel
        have M0' := Lib.hid (show Mid w w3 (w3.alloc (.cells (S8 true false 0) 63)) (S8 true false 0) u4 k ((List.range k).flatMap (seen xs)) D (play xs (k + 1)) from ⟨M0.out.seen, M0.out.own, M0.out.far, M0.out.bel, M0.out.lt, M0.out.set, REL.out⟩)
        have K58 := copySet _ w.heap.size (k + 1) D M0.out.set (by omega)
        rw [show (w3.alloc (.cells (S8 true false 0) 63)).heap.size = w3.heap.size + 1 by simp] at K58
        have K58 := Lib.hid K58
        clear hrel
        go_wp2_with (first
          | (go_at_call 58; (with_reducible refine K58.out.mono ?_); rintro e w7 ⟨rfl, h7, hb7⟩; have M7 := Lib.hid (M0'.out.below (show Below (w3.alloc (.cells (S8 true false 0) 63)).heap.size _ w7 by simpa using hb7)); have H7 := Lib.hid h7; clear h7 hb7)
          | (go_at_call 57; (with_reducible refine (insertAll w7 w.heap.size (w3.heap.size + 1) (k + 1) (k + 1) D M7.out.set H7.out (by omega) (by omega)).mono ?_); rintro e w4 ⟨rfl, h4', hg4⟩; have M4 := Lib.hid (M7.out.later hw3 hg4 h4' REL.out); have M5 := Lib.hid (M4.out.setCell (j := 6) (u := .int .i64 ((Maps.size D : Nat) : Int)) hw3); have L5 := Lib.hid (show (w4.setCell ⟨w3.heap.size, 6, none⟩ (.int .i64 ((Maps.size D : Nat) : Int))).heap[w3.heap.size]? = some (.cells (S8 true false ((Maps.size D : Nat) : Int)) 63 (0, 0)) from M5.out.seen); have f6 := M4.out.cellAt (j := 6) (u := .int .i64 0) rfl; have z6 := M4.out.frozenAt (j := 6); have SE := Lib.hid M4.out.rel.size; clear h4' hg4)
          | (go_at_call 60; (with_reducible refine (sizeOfSet _ w.heap.size (k + 1) _ M4.out.set).mono ?_); rintro e w5 ⟨rfl, rfl⟩)
          | (with_reducible refine wpList_load_row rfl 63 (.tmp 8) rfl w3.heap.size rfl 63 (S8 true false ((Maps.size D : Nat) : Int)) (0, 0) _ L5.out Try.underlying63 rfl (info63S _ _ _) ?_)
          | (at_builtin; refine wpList_append_lies _ rfl (.tmp 53) (.tmp 55) 53 rfl (w.heap.size + 1) 63 i63 _ 8 112 Try.underlying53 hi63 hz0 hz1 hz2 rfl (by decide) _ k _ rfl (M5.out.own.alloc _) _ 1 1 (S8 true false ((Maps.size D : Nat) : Int)).toList rfl rfl (World.news_of_block (heap_new_set w4 _ _ _)) (by simp [Value.oneCell']) (by decide) (by unfold maxLen; omega) (by omega) (by have := M5.out.lt; simp [World.setCell] at this ⊢; omega) _ rfl ?_; intro g cap w6 hown hgrow hat hlt6))
        go_roundw
        case rel =>
          obtain ⟨s1, s2, s3⟩ := M5.out.ends hgrow
          refine ⟨k + 1, _, by omega, by go_num, ?_, s1, s2, s3⟩
          have e : seen xs k = (S8 true false ((Maps.size D : Nat) : Int)).toList := by rw [HSN.out, SE.out]; simp [okK, h4]
          rw [seen_more, e]
          exact hown
        case measure => simp [intOf]; omega
      by_cases h5 : x.k = 5
      · have hPn : play xs (k + 1) = [] := by rw [HP.out, h5]; rfl
        have HPN := Lib.hid hPn
        clear hPn
        go_wp2_with (first
          | (go_at_call 59; (with_reducible refine (emptySet _ w.heap.size (k + 1) D M0.out.set (by omega)).mono ?_); rintro e w4 ⟨rfl, ⟨D', h4', hn'⟩, hg4⟩; have M4 := Lib.hid (M0.out.later (P' := play xs (k + 1)) hw3 hg4 h4' (by rw [HPN.out]; exact (rel_none (h4'.canon law) hn').1)); have M5 := Lib.hid (M4.out.setCell (j := 6) (u := .int .i64 ((Maps.size D' : Nat) : Int)) hw3); have L5 := Lib.hid (show (w4.setCell ⟨w3.heap.size, 6, none⟩ (.int .i64 ((Maps.size D' : Nat) : Int))).heap[w3.heap.size]? = some (.cells (S8 true false ((Maps.size D' : Nat) : Int)) 63 (0, 0)) from M5.out.seen); have f6 := M4.out.cellAt (j := 6) (u := .int .i64 0) rfl; have z6 := M4.out.frozenAt (j := 6); have SE := Lib.hid M4.out.rel.size; clear h4' hg4 hn')
          | (go_at_call 60; (with_reducible refine (sizeOfSet _ w.heap.size (k + 1) _ M4.out.set).mono ?_); rintro e w5 ⟨rfl, rfl⟩)
          | (with_reducible refine wpList_load_row rfl 63 (.tmp 8) rfl w3.heap.size rfl 63 (S8 true false ((Maps.size D' : Nat) : Int)) (0, 0) _ L5.out Try.underlying63 rfl (info63S _ _ _) ?_)
          | (at_builtin; refine wpList_append_lies _ rfl (.tmp 53) (.tmp 55) 53 rfl (w.heap.size + 1) 63 i63 _ 8 112 Try.underlying53 hi63 hz0 hz1 hz2 rfl (by decide) _ k _ rfl (M5.out.own.alloc _) _ 1 1 (S8 true false ((Maps.size D' : Nat) : Int)).toList rfl rfl (World.news_of_block (heap_new_set w4 _ _ _)) (by simp [Value.oneCell']) (by decide) (by unfold maxLen; omega) (by omega) (by have := M5.out.lt; simp [World.setCell] at this ⊢; omega) _ rfl ?_; intro g cap w6 hown hgrow hat hlt6))
        go_roundw
        case rel =>
          obtain ⟨s1, s2, s3⟩ := M5.out.ends hgrow
          refine ⟨k + 1, _, by omega, by go_num, ?_, s1, s2, s3⟩
          have e : seen xs k = (S8 true false ((Maps.size D' : Nat) : Int)).toList := by rw [HSN.out, SE.out]; simp [okK, h5]
          rw [seen_more, e]
          exact hown
        case measure => simp [intOf]; omega
      have hrel : Rel D (play xs (k + 1)) := by rw [HP.out]; unfold stepL; rw [if_neg h1, if_neg h2, if_neg h5]; exact R1.out
      have M4 := Lib.hid (mid_start (S := S8 false false 0) hw3 O3.out FAR.out B3w.out S3.out hrel)
      have M5 := Lib.hid (mid_start (S := S8 false false ((Maps.size D : Nat) : Int)) hw3 O3.out FAR.out B3w.out S3.out hrel)
      have SE := Lib.hid hrel.size
      clear hrel
      have i1 : (x.k == 1) = false := by simpa using h1
      have i2 : (x.k == 2) = false := by simpa using h2
      have i3 : (x.k == 3) = false := by simpa using h3
      have i4 : (x.k == 4) = false := by simpa using h4
      have i5 : (x.k == 5) = false := by simpa using h5
      go_wp2_with (first
        | (go_at_call 60; (with_reducible refine (sizeOfSet _ w.heap.size (k + 1) _ M4.out.set).mono ?_); rintro e w5 ⟨rfl, rfl⟩)
        | (at_builtin; refine wpList_append_lies _ rfl (.tmp 53) (.tmp 55) 53 rfl (w.heap.size + 1) 63 i63 _ 8 112 Try.underlying53 hi63 hz0 hz1 hz2 rfl (by decide) _ k _ rfl (M5.out.own.alloc _) _ 1 1 (S8 false false ((Maps.size D : Nat) : Int)).toList rfl rfl (World.news_of_block (heap_new2 w3 _ _)) (by simp [Value.oneCell']) (by decide) (by unfold maxLen; omega) (by omega) (by simp; omega) _ rfl ?_; intro g cap w6 hown hgrow hat hlt6))
      go_roundw
      case rel =>
        obtain ⟨s1, s2, s3⟩ := M5.out.ends hgrow
        refine ⟨k + 1, _, by omega, by go_num, ?_, s1, s2, s3⟩
        have e : seen xs k = (S8 false false ((Maps.size D : Nat) : Int)).toList := by rw [HSN.out, SE.out]; simp [okK, h1, h2, h3, h4, h5]
        rw [seen_more, e]
        exact hown
      case measure => simp [intOf]; omega
    · obtain rfl : k = n := by omega
      clear hO hS hR hB
      go_wp2_with fail
      go_ret
      exact ⟨_, rfl, O1.out, B1.out⟩
end Go.Proofs.Ytbenpkonepfipaa.Sets
