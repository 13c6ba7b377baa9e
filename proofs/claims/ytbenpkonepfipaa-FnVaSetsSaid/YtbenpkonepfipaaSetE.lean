/- The law of sets of hashes, walked. No condition. -/
import Derived.Test.YtbenpkonepfipaaSetD
import Derived.Deep.Cut
import Derived.Deep.RegionLaw
import Derived.Deep.AppendLies
set_option linter.unusedVariables false
namespace Go.Proofs.Ytbenpkonepfipaa.Sets
open Go.ChangeShapes Go.WideShapes Go.ChangeAt Go.RowKit
open Go.Proofs.Ytbenpkonepfipaa.Dig Go.Proofs.Ytbenpkonepfipaa.Mem Go.Proofs.Ytbenpkonepfipaa.Rb Go.Proofs.Ytbenpkonepfipaa.Ord Go.Proofs.Ytbenpkonepfipaa.Acts

theorem below_grown {w w' : World} (hb : Below w.heap.size w w') (row : Option Nat) : w.grownBy w' row := ⟨hb.os, hb.tape, hb.output, hb.size, fun k hk _ => hb.block k hk⟩
theorem info22' : (Try.prog.info? 22).map (fun i => (i.size, i.bytes)) = some (20, 20) := by kernel_rfl
theorem info22z : (Try.prog.info? 22).map (fun i => (i.zero, i.size, i.bytes)) = some (some (.agg Z20), 20, 20) := by kernel_rfl
theorem play_keys (xs : List ActV) (hx : ∀ x ∈ xs, ∀ y ∈ x.ks, y < 256) : ∀ k, k ≤ xs.length → ∀ h ∈ play xs k, Key h
  | 0, _, h, hm => by simp [play] at hm
  | k + 1, hk, h, hm => by
    have ih := play_keys xs hx k (by omega)
    have hkey := h20_key (hx _ (act_mem (xs := xs) (i := k) (by omega)))
    unfold play stepL at hm
    split at hm
    · split at hm
      · exact ih h hm
      · rcases List.mem_append.1 hm with hm | hm
        · exact ih h hm
        · rw [List.mem_singleton.1 hm]; exact hkey
    · split at hm
      · exact ih h (List.mem_of_mem_erase hm)
      · split at hm
        · simp at hm
        · exact ih h hm
theorem play_nodup (xs : List ActV) : ∀ k, (play xs k).Nodup
  | 0 => List.nodup_nil
  | k + 1 => by
    have ih := play_nodup xs k
    unfold play stepL
    split
    · split
      · exact ih
      · rename_i h
        rw [List.nodup_append]
        exact ⟨ih, by simp, fun a ha b hb => by rw [List.mem_singleton.1 hb]; intro e; exact h (e ▸ ha)⟩
    · split
      · exact ih.erase _
      · split
        · exact List.nodup_nil
        · exact ih
theorem flat8 (f : Nat → List Value) (hf : ∀ i, (f i).length = 8) : ∀ n k, k < n → ∀ j, j < 8 → ((List.range n).flatMap f)[k * 8 + j]? = (f k)[j]?
  | 0, k, h, _, _ => by omega
  | n + 1, k, h, j, hj => by
    have hl : ∀ n, ((List.range n).flatMap f).length = n * 8 := fun n => by
      induction n with
      | zero => rfl
      | succ n ih => rw [List.range_succ, List.flatMap_append, List.length_append, ih]; simp [hf]; omega
    rw [List.range_succ, List.flatMap_append]
    rcases Nat.lt_or_ge k n with h1 | h1
    · rw [List.getElem?_append_left (by rw [hl]; omega)]
      exact flat8 f hf n k h1 j hj
    · obtain rfl : k = n := by omega
      rw [List.getElem?_append_right (by rw [hl]; omega), hl, Nat.add_sub_cancel_left]
      simp
theorem seen_length (xs : List ActV) (i : Nat) : (seen xs i).length = 8 := rfl

theorem rowN_form {w : World} {B n s : Nat} {e : TypeId} {v : Value} {xs : List Value} (h : w.ownsRow B e s v n xs) : ∃ a c, v = .slice a n c := by
  rcases h.2 with ⟨h0, hz⟩ | ⟨g, cap, cur, hv, _⟩
  · exact ⟨none, 0, by rw [h0]; simp_all⟩
  · exact ⟨_, _, hv⟩
/-- Where the law's own list stands. -/
structure St (w3 w' : World) (P : Nat) (ia : Option Addr) (ic : Nat) (L : List (List Nat)) : Prop where
  cell : w'.heap[P]? = some (.cells #[.slice ia L.length ic] 51 (0, 0))
  own : w'.ownsRow w3.heap.size 22 20 (.slice ia L.length ic) L.length (cat20 L)
  grown : w3.grownBy w' (some P)
  lt : P < w3.heap.size
theorem St.below {w3 w' w'' : World} {P : Nat} {ia : Option Addr} {ic : Nat} {L : List (List Nat)} (h : St w3 w' P ia ic L) (hb : Below w'.heap.size w' w'') : St w3 w'' P ia ic L :=
  ⟨(hb.block P (Nat.lt_of_lt_of_le h.lt h.grown.size)).trans h.cell, rowN_below h.own hb, h.grown.trans (below_grown hb _), h.lt⟩
theorem St.cellP {w3 w' : World} {P : Nat} {ia : Option Addr} {ic : Nat} {L : List (List Nat)} (h : St w3 w' P ia ic L) : w'.cell? ⟨P, 0, none⟩ = some (.slice ia L.length ic) := by
  simp only [World.cell?, h.cell]; rfl
theorem St.frozenP {w3 w' : World} {P : Nat} {ia : Option Addr} {ic : Nat} {L : List (List Nat)} (h : St w3 w' P ia ic L) : w'.frozen? ⟨P, 0, none⟩ = false := by
  simp [World.frozen?, h.cell]
theorem st_set {w3 w6 : World} {P : Nat} {ia : Option Addr} {ic : Nat} {L : List (List Nat)} {old : Value} (hc : w6.heap[P]? = some (.cells #[old] 51 (0, 0))) (hown : w6.ownsRow w3.heap.size 22 20 (.slice ia L.length ic) L.length (cat20 L)) (hg : w3.grownBy w6 (some P)) (hlt : P < w3.heap.size) :
    St w3 (w6.setCell ⟨P, 0, none⟩ (.slice ia L.length ic)) P ia ic L := by
  refine ⟨by simp [World.setCell, Array.getElem?_modify, hc], row_setCell hown (fun i hi => by have := (hown.lt i hi).1; omega), ⟨hg.os, hg.tape, hg.output, by have := hg.size; simpa [World.setCell] using this, fun j hj hne => ?_⟩, hlt⟩
  have hj' : j ≠ P := fun e => hne (by rw [e])
  rw [← hg.block j hj hne]
  simp [World.setCell, Array.getElem?_modify, Ne.symm hj']
theorem cell_far {w3 w' : World} {P g j : Nat} {u : Value} (hg : w3.grownBy w' (some P)) (hc : w3.cell? ⟨g, j, none⟩ = some u) (hne : g ≠ P) : w'.cell? ⟨g, j, none⟩ = some u :=
  hg.cell hc (by intro e; exact hne (Option.some.inj e))
theorem cell_set_far {w : World} {P g j : Nat} {u v : Value} (h : w.cell? ⟨g, j, none⟩ = some u) (hne : g ≠ P) : (w.setCell ⟨P, 0, none⟩ v).cell? ⟨g, j, none⟩ = some u := by
  rw [← h]
  exact World.cell?_of_block (by simp [World.setCell, Array.getElem?_modify, Ne.symm hne])
theorem St.bel {w w3 w' : World} {P : Nat} {ia : Option Addr} {ic : Nat} {L : List (List Nat)} (h : St w3 w' P ia ic L) (hb : Below w.heap.size w w3) (hP : w.heap.size ≤ P) : Below w.heap.size w w' :=
  hb.grown h.grown hb.size (fun j hj => by cases hj; exact hP)

theorem fill20 (A : Array Value) (h : A.size = 20) : Instr.fill (fun i => some (i * 20, 20)) ((Array.range (1 * 20)).map ((Value.agg Z20).cells[· % (Value.agg Z20).cells.size]!)) [(0, .agg A)] = some A := by
  have e : (Array.range (1 * 20)).map ((Value.agg Z20).cells[· % (Value.agg Z20).cells.size]!) = Z20 := by kernel_rfl
  rw [e]
  obtain ⟨l⟩ := A
  match l, h with
  | [a0, a1, a2, a3, a4, a5, a6, a7, a8, a9, a10, a11, a12, a13, a14, a15, a16, a17, a18, a19], _ => simp [Instr.fill, Value.cells]

/-- An append in a region that draws its order, of any number of elements. -/
theorem step_append_at {P : Program} {ops : Array Oper} {o : Oper} {a : Act} {w : World} {K : Act → World → Prop} {Q : Exit → Act → World → Prop} {E : Prop} (hgd : o.guard = none) (s x : Operand) (t : TypeId)
    (ho : o.op = .call { callee := .builtin .append, args := #[s, x], argTypes := #[t, t] })
    (base : Nat) (e : TypeId) (i : TypeInfo) (z : Value) (size bytes : Nat) (ht : P.underlying t = some (.slice e)) (hi : P.info? e = some i) (hz : i.zero = some z)
    (hsize : i.size = size) (hby : i.bytes = bytes) (hzs : z.cells.size = size) (hsz : 0 < size)
    (v : Value) (n : Nat) (xs : List Value) (hs : a.eval s = v) (hown : w.ownsRow base e size v n xs)
    (ad : Addr) (m c : Nat) (news : List Value) (hx : a.eval x = .slice (some ad) m c) (hl : news.length = m * size) (hnews : ∀ j u, news[j]? = some u → w.cell? (ad.add j) = some u) (h1 : ∀ u ∈ news, u.oneCell' = true)
    (h63 : n + m ≤ maxLen) (hbytes : (n + m) * bytes ≤ 140737488355328) (hbase : base ≤ w.heap.size)
    (h : ∀ v' w', w'.ownsRow base e size v' (n + m) (xs ++ news) → w.grownBy w' v.ownBlock → K (a.put o.dst v') w') :
    if Region.wanted o (yielded ops a.tmps) = true then Oper.wp P o a w K Q else E := by
  have hw : Region.wanted o (yielded ops a.tmps) = true := by simp [Region.wanted, hgd]
  rw [if_pos hw]
  obtain ⟨v', w', hr, h2, h3, h4, h5⟩ := run_append_own_at (P := P) w base t o.type e i z size bytes ht hi hz hsize hby hzs hsz v n xs hown ad m c news hl hnews h1 h63 hbytes hbase
  unfold Oper.wp execOp
  simp only [ho, resolve, invoke, builtin, Sem.run_bind, Sem.run_pure, Result.andThen_ok, List.map_toArray, List.map_cons, List.map_nil, hs, hx, hr]
  exact h v' w' h2 h3
theorem own_empty (w : World) (base : Nat) (hb : base ≤ w.heap.size) : (w.alloc (.cells #[] 22)).ownsRow base 22 20 (.slice (some ⟨w.heap.size, 0, none⟩) 0 0) 0 [] :=
  ⟨rfl, Or.inr ⟨w.heap.size, 0, #[], rfl, hb, heap_alloc_new _ _, Nat.le_refl _, Nat.zero_le _, rfl, rfl⟩⟩

theorem elem51 : Try.prog.elem 51 = 22 := by kernel_rfl
theorem size22w (w : World) : (sizeOf 22).run Try.prog w = .ok 20 w := by kernel_rfl
theorem cut51h (a : Option Addr) (n c q : Nat) (h : q ≤ c) : ∀ w, (Instr.slice 51 (.slice a n c) none (some (.int .i64 (q : Int))) none).run Try.prog w = .ok (.slice a q c) w := fun w => by
  rw [run_slice_h w 51 a n c (by rw [elem51]; exact Try.underlying51) .i64 (q : Int) (by omega) (by omega), elem51, size22w]
  cases a <;> simp [Result.andThen, sliced, Addr.add]
theorem cut51l (g n c q : Nat) (h : q ≤ n) : ∀ w, (Instr.slice 51 (.slice (some ⟨g, 0, none⟩) n c) (some (.int .i64 (q : Int))) none none).run Try.prog w = .ok (.slice (some ⟨g, if c = q then 0 else q * 20, none⟩) (n - q) (c - q)) w := fun w => by
  rw [run_slice_l w 51 (some ⟨g, 0, none⟩) n c (by rw [elem51]; exact Try.underlying51) .i64 (q : Int) (by omega) (by omega), elem51, size22w]
  simp only [Result.andThen, sliced, Int.toNat_natCast]
  by_cases e : c = q
  · simp [e]
  · rw [if_neg e, if_neg e]
    simp only [Option.map_some, Addr.add]
    by_cases h0 : q * 20 = 0
    · rw [h0]; simp
    · simp [h0]
theorem own_mono {w : World} {B B' n s : Nat} {e : TypeId} {v : Value} {xs : List Value} (h : w.ownsRow B e s v n xs) (hb : B' ≤ B) : w.ownsRow B' e s v n xs := by
  refine ⟨h.1, ?_⟩
  rcases h.2 with h0 | ⟨g, cap, cur, hv, hB, hr⟩
  · exact Or.inl h0
  · exact Or.inr ⟨g, cap, cur, hv, Nat.le_trans hb hB, hr⟩
theorem cat20_append (L M : List (List Nat)) : cat20 (L ++ M) = cat20 L ++ cat20 M := by unfold cat20; rw [List.flatMap_append]
theorem cat20_take {L : List (List Nat)} (h : ∀ x ∈ L, Key x) (q : Nat) (hq : q ≤ L.length) : cat20 (L.take q) = (cat20 L).take (q * 20) := by
  have h1 := cat20_append (L.take q) (L.drop q)
  rw [List.take_append_drop] at h1
  have hl : (cat20 (L.take q)).length = q * 20 := by rw [cat20_length (fun x hx => h x (List.mem_of_mem_take hx)), List.length_take, Nat.min_eq_left hq]
  rw [h1]
  exact (List.take_left' hl).symm
theorem cat20_drop {L : List (List Nat)} (h : ∀ x ∈ L, Key x) (q : Nat) (hq : q ≤ L.length) : cat20 (L.drop q) = (cat20 L).drop (q * 20) := by
  have h1 := cat20_append (L.take q) (L.drop q)
  rw [List.take_append_drop] at h1
  have hl : (cat20 (L.take q)).length = q * 20 := by rw [cat20_length (fun x hx => h x (List.mem_of_mem_take hx)), List.length_take, Nat.min_eq_left hq]
  rw [h1]
  exact (List.drop_left' hl).symm
theorem erase_parts {L : List (List Nat)} (x : List Nat) : L.erase x = L.take (L.idxOf x) ++ L.drop (L.idxOf x + 1) := by
  rw [← List.eraseIdx_eq_take_drop_succ]
  induction L with
  | nil => rfl
  | cons y L ih =>
    by_cases e : y = x
    · subst e; simp
    · have hb : (y == x) = false := by simpa using e
      rw [List.erase_cons, hb, List.idxOf_cons, hb]
      simp only [Bool.false_eq_true, if_false, cond_false, List.eraseIdx_cons_succ, ih]
theorem cat20_one {L : List (List Nat)} : ∀ u ∈ cat20 L, u.oneCell' = true := by
  intro u hu
  unfold cat20 at hu
  obtain ⟨x, _, hx⟩ := List.mem_flatMap.1 hu
  obtain ⟨y, _, rfl⟩ := List.mem_map.1 hx
  rfl

/-- A slice of one hash. -/
theorem build_one {P : Program} {ops : Array Oper} {rest : List Oper} {o : Oper} {a : Act} {w : World} {Q : Exit → Act → World → Prop} (hg : o.guard = none) (t e : TypeId) (x : Operand) (ho : o.op = .buildSlice t 1 #[(0, x)]) (A : Array Value) (hx : a.eval x = .agg A) (hA : A.size = 20)
    (ie : TypeInfo) (hu : P.underlying t = some (.slice e)) (hie : P.info? e = some ie) (hz : ie.zero = some (.agg Z20)) (hs : ie.size = 20)
    (h : wpList P ops Q rest (a.put o.dst (.slice (some ⟨w.heap.size, 0, none⟩) 1 1)) (w.alloc (.cells A e))) : wpList P ops Q (o :: rest) a w :=
  wpList_buildSlice hg t e 1 _ ho A ie (.agg Z20) hu hie hz (by rw [hs]; decide) (by rw [hs]; decide) (by rw [hs]; simp only [List.map_toArray, List.map_cons, List.map_nil, hx]; exact fill20 A hA) h

set_option maxRecDepth 100000 in
set_option maxHeartbeats 1000000 in
theorem main (w : World) (a : Option Addr) (n c : Nat) (xs : List ActV) (h : Acts w a n c xs) (hn : n ≤ 60) :
    Calls Try.prog 7 #[.slice a n c] w fun e w' => e = .returned (.bool true) ∧ Below w.heap.size w w' := by
  have H := Lib.hid h
  have hmf : ∀ (fn : Fn) (first cap : Array Value) (w : World), (Instr.makeFunc fn first cap).run Try.prog w = .ok (.func fn first cap) w := fun _ _ _ _ => rfl
  obtain ⟨i22, hi22, hz0, hz1, hz2⟩ := info_parts info22z
  have K25 := Lib.hid (zzFits3 w a n c xs h)
  have hc := h.le
  have ht := h.top
  unfold maxLen at ht
  have PK := Lib.hid (play_keys xs (fun x hx => (h.ok x hx).key.byte))
  have q60 : ¬ (60 : Int) < (n : Int) := by omega
  clear h
  go_enter Try.func7, Try.ntmps7
  go_wp2_with (first
    | (go_at_call 25; (with_reducible refine K25.out.mono ?_); rintro e w1 ⟨⟨r, rfl⟩, hb1⟩; have B1 := Lib.hid hb1; have B1p := Lib.hid (hb1.alloc hb1.size (.cells #[.slice none 0 0] 51)); have H1 := Lib.hid (H.out.below B1p.out); clear hb1; cases r)
    | (go_at_call 27; (with_reducible refine (hashSetPlay _ a n c xs H1.out hn).mono ?_); rintro e w3 ⟨v, rfl, ho, hb3⟩; obtain ⟨va, vc, rfl⟩ := rowN_form ho; have OV := Lib.hid ho; have B3 := Lib.hid (B1p.out.trans (hb3.mono (by have := B1.out.size; simp; omega))); have P3 := Lib.hid (hb3.block w1.heap.size (by simp)); have HS3 := Lib.hid (show w1.heap.size + 1 ≤ w3.heap.size by simpa using hb3.size); clear ho hb3))
  · go_ret
    exact ⟨rfl, B1.out⟩
  · have hP1 : w.heap.size ≤ w1.heap.size := B1.out.size
    have hw3s : w1.heap.size + 1 ≤ w3.heap.size := HS3.out
    have S0 : St w3 w3 w1.heap.size none 0 [] := ⟨P3.out.trans (heap_alloc_new _ _), World.ownsRow_nil _ _ _ _, World.grownBy.refl _ _, by omega⟩
    have ST0 := Lib.hid S0
    clear S0
    go_loopw [26] (fun iv wr => ∃ (k : Nat) (ia : Option Addr) (ic : Nat), k ≤ n ∧ iv = .int .i64 (k : Int) ∧ St w3 wr w1.heap.size ia ic (play xs k)) (fun iv _ => n - (intOf iv).toNat)
    case atStart => exact ⟨0, _, _, by omega, rfl, ST0.out⟩
    case round =>
      obtain ⟨k, ia, ic, hk, rfl, hst⟩ := hrel
      have ST := Lib.hid hst
      have BW := Lib.hid (hst.bel B3.out hP1)
      have hws := hst.grown.size
      by_cases hlt : k < n
      · have HA := H.out.below BW.out
        obtain ⟨b, o, ea, hb2, hcell⟩ := HA.at_ (by omega)
        subst ea
        obtain ⟨x, hx⟩ : ∃ x, x = xs.getD k noAct := ⟨_, rfl⟩
        have hat := hcell k hlt
        have hok := HA.ok (xs.getD k noAct) (act_mem (by rw [HA.len]; exact hlt))
        rw [← hx] at hat hok
        obtain ⟨c0, c1, c2, c3, c4, c5, c6⟩ := hat
        obtain ⟨L, hL⟩ : ∃ L, L = play xs k := ⟨_, rfl⟩
        rw [← hL] at hst
        have hmk : L.length ≤ 60 := by rw [hL]; exact Nat.le_trans (play_length xs k) (by omega)
        have ST1 := Lib.hid hst
        have KEYS := Lib.hid (show ∀ y ∈ L, Key y by rw [hL]; exact PK.out k (by rw [HA.len]; omega))
        have KEY := Lib.hid (h20_key hok.key.byte)
        have A20 := Lib.hid (size22 (h20_key hok.key.byte).1)
        have AZ := Lib.hid (show Z20.size = (Arr .u8 (h20 x.ks)).size by rw [Arr_size, (h20_key hok.key.byte).1]; rfl)
        have A1 := Lib.hid (show (Arr .u8 (h20 x.ks)).all (·.oneCell') = true by simp [Arr, Value.oneCell'])
        have W4 := Lib.hid ((Below.refl wr.heap.size wr).alloc (Nat.le_refl _) (.cells (C7 x) 59))
        have K28 := Lib.hid (vaHash _ x.ka x.kn x.kc x.ks (hok.key.below W4.out (Nat.le_refl _)))
        obtain ⟨AT, hAT⟩ : ∃ AT, AT = at? (h20 x.ks) L := ⟨_, rfl⟩
        have K26 := Lib.hid fun W (h : St w3 W w1.heap.size ia ic L) => closure W w1.heap.size (.slice ia L.length ic) w3.heap.size L (h20 x.ks) KEY.out KEYS.out (by omega) h.cellP h.own
        rw [← hAT] at K26
        have HX := Lib.hid hx
        have HL := Lib.hid hL
        have gk : (wr.alloc (.cells (C7 x) 59)).cell? ⟨wr.heap.size, 0, none⟩ = some (.int .i64 x.k) := by simp only [World.cell?, heap_alloc_new]; rfl
        have HAT := Lib.hid hAT
        have SEQ := Lib.hid (show seen xs k = [.bool (okK x.k), .bool (decide (x.k = 3) && decide (h20 x.ks ∈ L)), .slice none 0 0, .slice none 0 0, .slice none 0 0, .string ⟨#[]⟩, .int .i64 (((play xs (k + 1)).length : Nat) : Int), .int .i64 0] by rw [seen, ← hx, ← hL])
        clear hcell hx hL hok HA hst hAT
        go_upto_region 15 with (first
          | (go_at_call 28; (with_reducible refine K28.out.mono ?_); rintro e w4 ⟨rfl, hb4⟩; have S4 := Lib.hid ((ST1.out.below W4.out).below hb4); have g4 := (hb4.cell (p := ⟨wr.heap.size, 0, none⟩) (by simp)).trans gk; have hw4 : wr.heap.size + 1 ≤ w4.heap.size := (by simpa using hb4.size); have S4a := Lib.hid (S4.out.below ((Below.refl w4.heap.size w4).alloc (Nat.le_refl _) (.cells (Arr .u8 (h20 x.ks)) 22))); have g4a := (World.cell?_alloc_lt w4 (.cells (Arr .u8 (h20 x.ks)) 22) _ (lt_of_cell g4)).trans g4; clear hb4)
          | (with_reducible refine store_new (A := Z20) (t := 22) rfl 22 (.tmp 8) (.tmp 33) rfl (Arr .u8 (h20 x.ks)) rfl rfl A20.out AZ.out A1.out ?_)
          | (with_reducible refine wpList_load_row rfl 22 (.tmp 8) rfl w4.heap.size rfl 22 (Arr .u8 (h20 x.ks)) (0, 0) _ (heap_alloc_new _ _) Try.underlying22 rfl A20.out ?_)
          | (go_at_call 26; (with_reducible refine (K26.out _ S4a.out).mono ?_); rintro e w5 ⟨rfl, hb5⟩; have S5 := Lib.hid (S4a.out.below hb5); have c5 := (hb5.cell (p := ⟨wr.heap.size, 0, none⟩) (by simp; omega)).trans g4a; have A8 := Lib.hid ((hb5.block w4.heap.size (by simp)).trans (heap_alloc_new w4 (.cells (Arr .u8 (h20 x.ks)) 22))); have hw5 : w4.heap.size + 1 ≤ w5.heap.size := (by simpa using hb5.size); clear hb5))
        -- ARMS
        have hpl : play xs (k + 1) = stepL L x.k (h20 x.ks) := by rw [play, ← HX.out, ← HL.out]
        obtain ⟨g, hva, hgB, hgl⟩ : ∃ g, va = some ⟨g, 0, none⟩ ∧ w1.heap.size + 1 ≤ g ∧ g < w3.heap.size := by
          rcases OV.out.2 with ⟨_, h0⟩ | ⟨g, cap, cur, hv, hB, hh, _⟩
          · omega
          · injection hv with e1
            refine ⟨g, e1, by simpa using Nat.le_of_succ_le hB, ?_⟩
            rcases Nat.lt_or_ge g w3.heap.size with h' | h'
            · exact h'
            · rw [Array.getElem?_eq_none h'] at hh; cases hh
        subst hva
        have SC := Lib.hid fun W (hg : w3.grownBy W (some w1.heap.size)) => cell_far hg ((OV.out.cellAt (k * 8 + 6) (by omega)).trans ((flat8 (seen xs) (seen_length xs) n k hlt 6 (by omega)).trans (by rw [SEQ.out, hpl]; rfl))) (show g ≠ w1.heap.size by omega)
        have SI := Lib.hid fun W (hg : w3.grownBy W (some w1.heap.size)) => cell_far hg ((OV.out.cellAt (k * 8 + 1) (by omega)).trans ((flat8 (seen xs) (seen_length xs) n k hlt 1 (by omega)).trans (by rw [SEQ.out]; rfl))) (show g ≠ w1.heap.size by omega)
        have HPL := Lib.hid hpl
        clear hpl
        by_cases h1 : x.k = 1
        · by_cases hm : h20 x.ks ∈ L
          · obtain ⟨q, hq⟩ : ∃ q : Nat, AT = (q : Int) := ⟨_, by rw [HAT.out]; unfold at?; rw [if_pos hm]⟩
            subst hq
            have a1 : ¬ (q : Int) < 0 := by omega
            have hst : stepL L x.k (h20 x.ks) = L := by rw [h1]; unfold stepL; rw [if_pos rfl, if_pos hm]
            rw [hst] at HPL SC
            have cP := S5.out.cellP
            have cC := SC.out w5 S5.out.grown
            have cI := SI.out w5 S5.out.grown
            go_wp2_with fail
            go_quiet (fail)
            go_wp2_with fail
            go_roundw
            case rel => exact ⟨k + 1, _, _, by omega, by go_num, by rw [HPL.out]; exact S5.out.below (bdn (Below.refl _ _) _)⟩
            case measure => simp [intOf]; omega
          · obtain rfl : AT = -1 := by rw [HAT.out]; unfold at?; rw [if_neg hm]
            have hst : stepL L x.k (h20 x.ks) = L ++ [h20 x.ks] := by rw [h1]; unfold stepL; rw [if_pos rfl, if_neg hm]
            rw [hst] at HPL SC
            have cP := S5.out.cellP
            have FS := Lib.hid (show (Arr .u8 (h20 x.ks)).size = 20 by have := KEY.out.1; simp [Arr, this])
            have NL := Lib.hid (show (Arr .u8 (h20 x.ks)).toList.length = 1 * 20 by have := KEY.out.1; simp [Arr, this])
            have N1 := Lib.hid (show ∀ u ∈ (Arr .u8 (h20 x.ks)).toList, u.oneCell' = true by intro u hu; simp only [Arr, List.toList_toArray] at hu; obtain ⟨y, _, rfl⟩ := List.mem_map.1 hu; rfl)
            have CL := Lib.hid (show cat20 L ++ (Arr .u8 (h20 x.ks)).toList = cat20 (L ++ [h20 x.ks]) by unfold cat20; rw [List.flatMap_append]; simp [Arr, bs])
            go_upto_region 27 with (first
              | (with_reducible refine wpList_load_row rfl 22 (.tmp 8) rfl w4.heap.size rfl 22 (Arr .u8 (h20 x.ks)) (0, 0) _ A8.out Try.underlying22 rfl A20.out ?_)
              | (with_reducible refine build_one rfl 51 22 (.tmp 44) rfl (Arr .u8 (h20 x.ks)) rfl FS.out i22 Try.underlying51 hi22 hz0 hz1 ?_)
              | (at_builtin; refine wpList_append_lies _ rfl (.tmp 43) (.tmp 45) 51 rfl w3.heap.size 22 i22 _ 20 20 Try.underlying51 hi22 hz0 hz1 hz2 rfl (by decide) _ L.length _ rfl (S5.out.own.alloc _) _ 1 1 (Arr .u8 (h20 x.ks)).toList rfl NL.out (World.news_of_block (heap_alloc_new _ _)) N1.out (by decide) (by unfold maxLen; omega) (by omega) (by have := S5.out.grown.size; simp; omega) _ rfl ?_; intro g6 cap w6 hown hgrow hat hlt6; rw [CL.out] at hown; have hg6 := (S5.out.grown.trans (World.grownBy_alloc w5 (.cells (Arr .u8 (h20 x.ks)) 22) (some w1.heap.size))).andThen hgrow (fun j hj => Or.inl (S5.out.own.lt j hj).1); have hP6 := (hgrow.block w1.heap.size (by have := S5.out.grown.size; simp; omega) (fun e => by have := (S5.out.own.lt _ e.symm).1; omega)).trans ((Below.heap_alloc _ _ _ (by have := S5.out.grown.size; omega)).trans S5.out.cell); have S6 := Lib.hid (st_set (ia := some ⟨g6, 0, none⟩) (ic := cap) (L := L ++ [h20 x.ks]) hP6 (by rw [List.length_append]; exact hown) hg6 (by omega)); have f6 : w6.cell? ⟨w1.heap.size, 0, none⟩ = some (.slice ia L.length ic) := (by simp only [World.cell?, hP6]; rfl); have z6 : w6.frozen? ⟨w1.heap.size, 0, none⟩ = false := (by simp [World.frozen?, hP6]); have K6 := (hgrow.cell ((World.cell?_alloc_lt w5 (.cells (Arr .u8 (h20 x.ks)) 22) _ (lt_of_cell c5)).trans c5) (fun e => by have := (ST1.out.own.lt _ e.symm).2; simp at this)); clear hown hgrow hat hlt6 hg6 hP6))
            have cP := S6.out.cellP
            have cC := SC.out (w6.setCell ⟨w1.heap.size, 0, none⟩ (.slice (some ⟨g6, 0, none⟩) (L ++ [h20 x.ks]).length cap)) S6.out.grown
            have cI := SI.out (w6.setCell ⟨w1.heap.size, 0, none⟩ (.slice (some ⟨g6, 0, none⟩) (L ++ [h20 x.ks]).length cap)) S6.out.grown
            have K7 := cell_set_far (P := w1.heap.size) (v := .slice (some ⟨g6, 0, none⟩) (L.length + 1) cap) K6 (by omega)
            rw [List.length_append, List.length_singleton] at cP cC cI
            clear cI K6 f6 z6
            go_quiet (fail)
            go_wp2_with fail
            go_roundw
            case rel => exact ⟨k + 1, _, _, by omega, by go_num, by rw [HPL.out]; have h6 := S6.out; rw [List.length_append, List.length_singleton] at h6; exact h6.below (bdn (Below.refl _ _) _)⟩
            case measure => simp [intOf]; omega
        have i1 : (x.k == 1) = false := by simpa using h1
        by_cases h2 : x.k = 2
        · by_cases hm : h20 x.ks ∈ L
          · obtain ⟨q, hq⟩ : ∃ q : Nat, AT = (q : Int) := ⟨_, by rw [HAT.out]; unfold at?; rw [if_pos hm]⟩
            have hqi : q = L.idxOf (h20 x.ks) := by have := HAT.out; unfold at? at this; rw [if_pos hm, hq] at this; omega
            subst hq
            have a2 : (0 : Int) ≤ (q : Int) := by omega
            have hql : q < L.length := by rw [hqi]; exact List.idxOf_lt_length_iff.2 hm
            have her : L.erase (h20 x.ks) = L.take q ++ L.drop (q + 1) := by rw [hqi]; exact erase_parts _
            have hst : stepL L x.k (h20 x.ks) = L.erase (h20 x.ks) := by rw [h2]; unfold stepL; rw [if_neg (by decide), if_pos rfl]
            rw [hst] at HPL SC
            obtain ⟨L2, hL2⟩ : ∃ L2, L2 = L.erase (h20 x.ks) := ⟨_, rfl⟩
            rw [← hL2] at HPL SC her
            obtain ⟨q1, hq1⟩ : ∃ q1, q1 = q + 1 := ⟨_, rfl⟩
            have b1 : (q : Int) + 1 = (q1 : Int) := by omega
            have b2 : IntKind.i64.wrap (q1 : Int) = (q1 : Int) := by rw [IntKind.wrap_i64]; omega
            rw [← hq1] at her
            obtain ⟨N2, hN2⟩ : ∃ N2, N2 = 0 + q + (L.length - q1) := ⟨_, rfl⟩
            have hl2 : L2.length = N2 := by rw [her, List.length_append, List.length_take, List.length_drop]; omega
            obtain ⟨gi, hia, hgi, hgil, hic⟩ : ∃ gi, ia = some ⟨gi, 0, none⟩ ∧ w3.heap.size ≤ gi ∧ gi < w5.heap.size ∧ L.length ≤ ic := by
              rcases S5.out.own.2 with ⟨_, h0⟩ | ⟨gi, cap, cur, hv, hB, hh, hle, _⟩
              · omega
              · injection hv with e1 e2 e3
                refine ⟨gi, e1, hB, ?_, by omega⟩
                rcases Nat.lt_or_ge gi w5.heap.size with h' | h'
                · exact h'
                · rw [Array.getElem?_eq_none h'] at hh; cases hh
            subst hia
            have NN1 := Lib.hid (show ((cat20 L).take (q * 20)).length = q * 20 by rw [List.length_take, cat20_length KEYS.out]; have := Nat.mul_le_mul_right 20 (Nat.le_of_lt hql); omega)
            have NN2 := Lib.hid (show ((cat20 L).drop (q1 * 20)).length = (L.length - q1) * 20 by rw [List.length_drop, cat20_length KEYS.out, Nat.sub_mul])
            have ON1 := Lib.hid (show ∀ u ∈ (cat20 L).take (q * 20), u.oneCell' = true from fun u hu => cat20_one u (List.mem_of_mem_take hu))
            have ON2 := Lib.hid (show ∀ u ∈ (cat20 L).drop (q1 * 20), u.oneCell' = true from fun u hu => cat20_one u (List.mem_of_mem_drop hu))
            have CELL := Lib.hid (show ∀ W, Below w5.heap.size w5 W → ∀ j, W.cell? ⟨gi, j, none⟩ = (if j < L.length * 20 then (cat20 L)[j]? else W.cell? ⟨gi, j, none⟩) from fun W hb j => by
              by_cases hj : j < L.length * 20
              · rw [if_pos hj, hb.cell (p := ⟨gi, j, none⟩) hgil]; exact S5.out.own.cellAt j hj
              · rw [if_neg hj])
            have NW1 := Lib.hid (show ∀ W, Below w5.heap.size w5 W → ∀ j u, ((cat20 L).take (q * 20))[j]? = some u → W.cell? ((⟨gi, 0, none⟩ : Addr).add j) = some u from fun W hb j u hj => by
              have hjl : j < q * 20 := by have := (List.getElem?_eq_some_iff.1 hj).1; rwa [NN1.out] at this
              rw [Addr.add_mid, Nat.zero_add, CELL.out W hb j, if_pos (by have := Nat.mul_le_mul_right 20 (Nat.le_of_lt hql); omega), ← hj, List.getElem?_take_of_lt hjl])
            have NW2 := Lib.hid (show ∀ W, Below w5.heap.size w5 W → ∀ j u, ((cat20 L).drop (q1 * 20))[j]? = some u → W.cell? ((⟨gi, if ic = q1 then 0 else q1 * 20, none⟩ : Addr).add j) = some u from fun W hb j u hj => by
              have hjl : j < (L.length - q1) * 20 := by have := (List.getElem?_eq_some_iff.1 hj).1; rwa [NN2.out] at this
              rw [if_neg (by intro e; omega), Addr.add_mid, CELL.out W hb _, if_pos (by rw [Nat.sub_mul] at hjl; omega), ← hj, List.getElem?_drop])
            have CL := Lib.hid (show ([] ++ (cat20 L).take (q * 20)) ++ (cat20 L).drop (q1 * 20) = cat20 L2 by rw [List.nil_append, ← cat20_take KEYS.out q (by omega), ← cat20_drop KEYS.out q1 (by omega), ← cat20_append, ← her])
            have HN2 := Lib.hid hN2
            have HL2 := Lib.hid hl2
            have OE := Lib.hid (own_empty w5 w5.heap.size (Nat.le_refl _))
            have BE := Lib.hid ((Below.refl w5.heap.size w5).alloc (Nat.le_refl _) (.cells #[] 22))
            have k1 := cut51h (some ⟨gi, 0, none⟩) L.length ic q (by omega)
            have k2 := cut51l gi L.length ic q1 (by omega)
            obtain ⟨X, hX⟩ : ∃ X, X = (if ic = q1 then 0 else q1 * 20) := ⟨_, rfl⟩
            rw [← hX] at k2 NW2
            have hw3w5 := S5.out.grown.size
            have hqic : q ≤ ic := by omega
            have hq1l : q1 ≤ L.length := by omega
            clear hst hL2 her hl2 hN2 hq1 hX hqi
            have cP := S5.out.cellP
            have cPA := fun O => (S5.out.below ((Below.refl w5.heap.size w5).alloc (Nat.le_refl _) O)).cellP
            have zP := S5.out.frozenP
            go_upto_region 22 with fail
            go_region_law (first
              | (refine step_append_at rfl (.tmp 55) (.tmp 59) 51 rfl w5.heap.size 22 i22 (.agg Z20) 20 20 Try.underlying51 hi22 hz0 hz1 hz2 rfl (by decide) v6 (0 + q) ([] ++ (cat20 L).take (q * 20)) (by simp [Act.eval, Act.put]) O6.out ⟨gi, X, none⟩ (L.length - q1) (ic - q1) ((cat20 L).drop (q1 * 20)) (by simp [Act.eval, Act.put]) NN2.out (NW2.out _ B6.out) ON2.out (by unfold maxLen; omega) (by omega) (by have := B6.out.size; omega) ?_; intro v7 w7 hown7 hgrow7; rw [CL.out, ← HN2.out] at hown7; obtain ⟨a7, c7, rfl⟩ := rowN_form hown7; have F7 : w7.heap[w1.heap.size]? = some (.cells #[.slice (some ⟨gi, 0, none⟩) L.length ic] 51 (0, 0)) := (hgrow7.block w1.heap.size (by have := B6.out.size; omega) (fun e => by have := (O6.out.lt _ e.symm).1; omega)).trans (S5.out.below B6.out).cell; have cP7 : w7.cell? ⟨w1.heap.size, 0, none⟩ = some (.slice (some ⟨gi, 0, none⟩) L.length ic) := (by simp only [World.cell?, F7]; rfl); have zP7 : w7.frozen? ⟨w1.heap.size, 0, none⟩ = false := (by simp [World.frozen?, F7]); have K7 := hgrow7.cell k6 (fun e => by have := (O6.out.lt _ e.symm).1; simp at this; omega); have G37 := (S5.out.below B6.out).grown.andThen hgrow7 (fun j hj => Or.inl (Nat.le_trans hw3w5 (O6.out.lt j hj).1)); have S7 := Lib.hid (show St w3 (w7.setCell ⟨w1.heap.size, 0, none⟩ (.slice a7 N2 c7)) w1.heap.size a7 c7 L2 from (by have := st_set (L := L2) (ia := a7) (ic := c7) F7 (by rw [HL2.out]; exact own_mono hown7 hw3w5) G37 S5.out.lt; rwa [HL2.out] at this)); clear hown7 hgrow7 F7 G37)
              | (refine step_append_at rfl (.tmp 51) (.tmp 54) 51 rfl w5.heap.size 22 i22 (.agg Z20) 20 20 Try.underlying51 hi22 hz0 hz1 hz2 rfl (by decide) (.slice (some ⟨w5.heap.size, 0, none⟩) 0 0) 0 [] (by simp [Act.eval, Act.put]) (by exact OE.out) ⟨gi, 0, none⟩ q ic ((cat20 L).take (q * 20)) (by simp [Act.eval, Act.put]) NN1.out (NW1.out _ BE.out.drew) ON1.out (by unfold maxLen; omega) (by omega) (by simp) ?_; intro v6 w6 hown6 hgrow6; have O6 := Lib.hid hown6; have B6 := Lib.hid (show Below w5.heap.size w5 w6 from (BE.out.drew).grown hgrow6 (by simp) (fun j hj => by cases hj; exact Nat.le_refl _)); clear hown6 hgrow6; have cP6 := (S5.out.below B6.out).cellP; have k6 := (B6.out.cell (p := ⟨wr.heap.size, 0, none⟩) (by show wr.heap.size < w5.heap.size; omega)).trans c5))
            all_goals
              clear cP cPA zP cP6
              have cP8 : (w7.setCell ⟨w1.heap.size, 0, none⟩ (.slice a7 N2 c7)).cell? ⟨w1.heap.size, 0, none⟩ = some (.slice a7 N2 c7) := by have := S7.out.cellP; rwa [HL2.out] at this
              have cC := SC.out (w7.setCell ⟨w1.heap.size, 0, none⟩ (.slice a7 N2 c7)) S7.out.grown
              rw [HL2.out] at cC
              have K8 := cell_set_far (P := w1.heap.size) (v := .slice a7 N2 c7) K7 (by omega)
              clear cP7 zP7 K7 k6
              go_wp2_with fail
              go_quiet (fail)
              go_wp2_with fail
              go_roundw
            all_goals first
              | exact ⟨k + 1, _, _, by omega, by go_num, by rw [HPL.out]; exact S7.out.below (bdn (Below.refl _ _) _)⟩
              | (simp [intOf]; omega)
          · obtain rfl : AT = -1 := by rw [HAT.out]; unfold at?; rw [if_neg hm]
            have hst : stepL L x.k (h20 x.ks) = L := by rw [h2]; unfold stepL; rw [if_neg (by decide), if_pos rfl, List.erase_of_not_mem hm]
            rw [hst] at HPL SC
            have cP := S5.out.cellP
            have cC := SC.out w5 S5.out.grown
            have cI := SI.out w5 S5.out.grown
            go_wp2_with fail
            go_quiet (fail)
            go_wp2_with fail
            go_roundw
            case rel => exact ⟨k + 1, _, _, by omega, by go_num, by rw [HPL.out]; exact S5.out.below (bdn (Below.refl _ _) _)⟩
            case measure => simp [intOf]; omega
        have i2 : (x.k == 2) = false := by simpa using h2
        by_cases h3 : x.k = 3
        · have hst : stepL L x.k (h20 x.ks) = L := by rw [h3]; rfl
          rw [hst] at HPL SC
          by_cases hm : h20 x.ks ∈ L
          · obtain ⟨q, hq⟩ : ∃ q : Nat, AT = (q : Int) := ⟨_, by rw [HAT.out]; unfold at?; rw [if_pos hm]⟩
            subst hq
            have a1 : ¬ (q : Int) < 0 := by omega
            have a2 : (0 : Int) ≤ (q : Int) := by omega
            have cP := S5.out.cellP
            have cC := SC.out w5 S5.out.grown
            have cI := SI.out w5 S5.out.grown
            have cI := (show w5.cell? ⟨g, k * 8 + 1, none⟩ = some (.bool true) by simpa [h3, hm] using cI)
            go_wp2_with fail
            go_quiet (fail)
            go_wp2_with fail
            go_roundw
            case rel => exact ⟨k + 1, _, _, by omega, by go_num, by rw [HPL.out]; exact S5.out.below (bdn (Below.refl _ _) _)⟩
            case measure => simp [intOf]; omega
          · obtain rfl : AT = -1 := by rw [HAT.out]; unfold at?; rw [if_neg hm]
            have cP := S5.out.cellP
            have cC := SC.out w5 S5.out.grown
            have cI := SI.out w5 S5.out.grown
            have cI := (show w5.cell? ⟨g, k * 8 + 1, none⟩ = some (.bool false) by simpa [h3, hm] using cI)
            go_wp2_with fail
            go_quiet (fail)
            go_wp2_with fail
            go_roundw
            case rel => exact ⟨k + 1, _, _, by omega, by go_num, by rw [HPL.out]; exact S5.out.below (bdn (Below.refl _ _) _)⟩
            case measure => simp [intOf]; omega
        have i3 : (x.k == 3) = false := by simpa using h3
        by_cases h4 : x.k = 4
        · have hst : stepL L x.k (h20 x.ks) = L := by rw [h4]; rfl
          rw [hst] at HPL SC
          have cP := S5.out.cellP
          have cC := SC.out w5 S5.out.grown
          have cI := SI.out w5 S5.out.grown
          go_wp2_with fail
          go_quiet (fail)
          go_wp2_with fail
          go_roundw
          case rel => exact ⟨k + 1, _, _, by omega, by go_num, by rw [HPL.out]; exact S5.out.below (bdn (Below.refl _ _) _)⟩
          case measure => simp [intOf]; omega
        have i4 : (x.k == 4) = false := by simpa using h4
        by_cases h5 : x.k = 5
        · have hst : stepL L x.k (h20 x.ks) = [] := by rw [h5]; rfl
          rw [hst] at HPL SC
          have cP := S5.out.cellP
          have zP := S5.out.frozenP
          have S6 := Lib.hid (show St w3 (w5.setCell ⟨w1.heap.size, 0, none⟩ (.slice none 0 0)) w1.heap.size none 0 [] from st_set (w3 := w3) (ia := none) (ic := 0) (L := []) S5.out.cell (World.ownsRow_nil _ _ _ _) S5.out.grown S5.out.lt)
          go_upto_region 27 with fail
          have K7 := cell_set_far (P := w1.heap.size) (v := .slice none 0 0) c5 (by omega)
          clear cP zP
          have cP := S6.out.cellP
          have cC := SC.out (w5.setCell ⟨w1.heap.size, 0, none⟩ (.slice none 0 0)) S6.out.grown
          have cI := SI.out (w5.setCell ⟨w1.heap.size, 0, none⟩ (.slice none 0 0)) S6.out.grown
          have cP : (w5.setCell ⟨w1.heap.size, 0, none⟩ (.slice none 0 0)).cell? ⟨w1.heap.size, 0, none⟩ = some (.slice none 0 0) := cP
          have cC : (w5.setCell ⟨w1.heap.size, 0, none⟩ (.slice none 0 0)).cell? ⟨g, k * 8 + 6, none⟩ = some (.int .i64 0) := cC
          go_quiet (fail)
          go_wp2_with fail
          go_roundw
          case rel => exact ⟨k + 1, _, _, by omega, by go_num, by rw [HPL.out]; exact S6.out.below (bdn (Below.refl _ _) _)⟩
          case measure => simp [intOf]; omega
        have i5 : (x.k == 5) = false := by simpa using h5
        go_wp2_with fail
        go_ret
        exact ⟨rfl, S5.out.bel B3.out hP1⟩
      · obtain rfl : k = n := by omega
        go_wp2_with fail
        go_ret
        exact ⟨rfl, BW.out⟩

theorem walk (w : World) (a : Option Addr) (n c : Nat) (xs : List ActV) (h : Acts w a n c xs) :
    Calls Try.prog 7 #[.slice a n c] w fun e w' => e = .returned (.bool true) ∧ Below w.heap.size w w' := by
  by_cases g1 : n ≤ 60
  · exact main w a n c xs h g1
  · have K25 := Lib.hid (zzFits3 w a n c xs h)
    have hc := h.le
    have ht := h.top
    unfold maxLen at ht
    have q60 : (60 : Int) < (n : Int) := by omega
    clear h
    go_enter Try.func7, Try.ntmps7
    go_wp2_with (go_at_call 25; (with_reducible refine K25.out.mono ?_); rintro e w1 ⟨⟨r, rfl⟩, hb1⟩; have B1 := Lib.hid hb1; clear hb1; cases r)
    all_goals (go_ret; exact ⟨rfl, B1.out⟩)
end Go.Proofs.Ytbenpkonepfipaa.Sets
