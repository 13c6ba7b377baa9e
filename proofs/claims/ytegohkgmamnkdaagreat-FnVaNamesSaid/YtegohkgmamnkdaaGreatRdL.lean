/- WalkAddresses by the message's kind, walked; what a reader of a message may ask, as one bundle. Condition: the bytes are a message. -/
import Derived.Test.YtegohkgmamnkdaaGreatRdK
set_option linter.unusedVariables false
namespace Go.Proofs.YtegohkgmamnkdaaGreat.Msg
open Go.ChangeShapes Go.WideShapes Go.ChangeAt Go.RowKit
open Go.Proofs.YtegohkgmamnkdaaGreat.Dig Go.Proofs.YtegohkgmamnkdaaGreat.Mem Go.Proofs.YtegohkgmamnkdaaGreat.Rb Go.Proofs.YtegohkgmamnkdaaGreat.Hn
open Go.Proofs.YtegohkgmamnkdaaGreat.Cnt (encs enc Nums64 OwnU)

abbrev Taker (B0 : Nat) : Value := .func (.func 47) #[] #[.pointer (some ⟨B0, 0, none⟩)]

set_option maxRecDepth 100000 in
theorem waP {w : World} {g o L cc n B0 : Nat} {T : List Nat} {R : Ending → World → Prop} (h : Mess w g o L cc n T fidMap) (K : Calls Tryz.prog 89 #[.slice (some ⟨g, o, none⟩) L cc, Taker B0] w fun e w' => e = .returned Value.nilIface ∧ R e w') :
    Calls Tryz.prog 45 #[.slice (some ⟨g, o, none⟩) L cc, Taker B0] w fun e w' => e = .returned Value.nilIface ∧ R e w' := by
  have K1 := Lib.hid (fileId h ⟨#[84, 85, 80, 77]⟩ txtP)
  have K2 := Lib.hid K
  clear h K
  go_enter Tryz.func45, Tryz.ntmps45
  go_wp2_with (first
    | (go_at_call 88; (with_reducible refine K1.out.mono ?_); rintro e w1 ⟨rfl, rfl⟩)
    | (go_at_call 89; (with_reducible refine K2.out.mono ?_); rintro e w2 ⟨rfl, h2⟩; have H2 := Lib.hid h2; clear h2))
  go_ret
  exact ⟨rfl, H2.out⟩
set_option maxRecDepth 100000 in
theorem waA {w : World} {g o L cc n B0 : Nat} {T : List Nat} {R : Ending → World → Prop} (h : Mess w g o L cc n T fidAdr) (K : Calls Tryz.prog 90 #[.slice (some ⟨g, o, none⟩) L cc, Taker B0] w fun e w' => e = .returned Value.nilIface ∧ R e w') :
    Calls Tryz.prog 45 #[.slice (some ⟨g, o, none⟩) L cc, Taker B0] w fun e w' => e = .returned Value.nilIface ∧ R e w' := by
  have K1 := Lib.hid (fileId h ⟨#[65, 68, 82, 77]⟩ txtA)
  have K2 := Lib.hid K
  clear h K
  go_enter Tryz.func45, Tryz.ntmps45
  go_wp2_with (first
    | (go_at_call 88; (with_reducible refine K1.out.mono ?_); rintro e w1 ⟨rfl, rfl⟩)
    | (go_at_call 90; (with_reducible refine K2.out.mono ?_); rintro e w2 ⟨rfl, h2⟩; have H2 := Lib.hid h2; clear h2))
  go_ret
  exact ⟨rfl, H2.out⟩

abbrev nodeV (K0 K1 V0 V1 : Value) (m g o L cc : Nat) : Value := .agg #[K0, K1, V0, V1, .int .u16 (m : Int), .slice (some ⟨g, o, none⟩) L cc]
/-- What a reader of a message may ask, and what is answered. -/
structure Rdr (g o L cc n m lv cnt : Nat) (T id : List Nat) (fs gs : List Fld) (ls : List Nat) (ma : Nat) (ys : List Nat) : Prop where
  node : ∀ w, Mess w g o L cc n T id → (∀ f ∈ fs, FldOk w f) → (∀ f ∈ gs, FldOk w f) → Calls Tryz.prog 37 #[.slice (some ⟨g, o, none⟩) L cc] w fun e w' => ∃ K0 K1 V0 V1, e = .returned (nodeV K0 K1 V0 V1 m g o L cc) ∧ Sld w' K0 K1 fs m ∧ Sld w' V0 V1 gs m ∧ (Lies w.heap.size g K0 ∧ Lies w.heap.size g K1 ∧ Lies w.heap.size g V0 ∧ Lies w.heap.size g V1) ∧ Below w.heap.size w w'
  lvl : ∀ w K0 K1 V0 V1, Mess w g o L cc n T id → K0.oneCell' = true → K1.oneCell' = true → V0.oneCell' = true → V1.oneCell' = true → Calls Tryz.prog 38 #[nodeV K0 K1 V0 V1 m g o L cc] w fun e w' => e = .returned (.int .i64 (lv : Int)) ∧ Below w.heap.size w w'
  tc : ∀ w K0 K1 V0 V1, Mess w g o L cc n T id → K0.oneCell' = true → K1.oneCell' = true → V0.oneCell' = true → V1.oneCell' = true → Calls Tryz.prog 40 #[nodeV K0 K1 V0 V1 m g o L cc] w fun e w' => e = .returned (.int .i64 (cnt : Int)) ∧ Below w.heap.size w w'
  leaf : ∀ w K0 K1 V0 V1, Mess w g o L cc n T id → K0.oneCell' = true → K1.oneCell' = true → V0.oneCell' = true → V1.oneCell' = true → Calls Tryz.prog 43 #[nodeV K0 K1 V0 V1 m g o L cc] w fun e w' => e = .returned (.bool (decide ((lv : Int) = 0))) ∧ Below w.heap.size w w'
  subs : 0 < lv → ∀ w K0 K1 V0 V1, Mess w g o L cc n T id → K0.oneCell' = true → K1.oneCell' = true → V0.oneCell' = true → V1.oneCell' = true → Calls Tryz.prog 44 #[nodeV K0 K1 V0 V1 m g o L cc] w fun e w' => ∃ q, e = .returned (.slice (some ⟨q, 0, none⟩) m m) ∧ OwnU w w' q ls
  walk : ∀ w B0 c0 c1 c2 c3 c4 c5, Mess w g o L cc n T id → g ≠ B0 → Ad w w B0 c0 c1 c2 c3 c4 c5 (.slice none 0 0) [] → Calls Tryz.prog 45 #[.slice (some ⟨g, o, none⟩) L cc, Taker B0] w fun e w' => e = .returned Value.nilIface ∧ ∃ av hs, Pieces ys ma hs ∧ Ad w w' B0 c0 c1 c2 c3 c4 c5 av hs
end Go.Proofs.YtegohkgmamnkdaaGreat.Msg
/- What a reader of a map's message may ask, answered. Condition: the bytes are a message. -/
set_option linter.unusedVariables false
namespace Go.Proofs.YtegohkgmamnkdaaGreat.Msg
open Go.ChangeShapes Go.WideShapes Go.ChangeAt Go.RowKit
open Go.Proofs.YtegohkgmamnkdaaGreat.Dig Go.Proofs.YtegohkgmamnkdaaGreat.Mem Go.Proofs.YtegohkgmamnkdaaGreat.Rb Go.Proofs.YtegohkgmamnkdaaGreat.Hn
open Go.Proofs.YtegohkgmamnkdaaGreat.Cnt (encs enc Nums64 OwnU)

theorem rdrP0 {g o L cc m : Nat} {T : List Nat} {fs gs : List Fld} {w0 : World} (M : MapTold T fs gs m 3 4 (m - 1) m 0 10 (ofb gs 1 (m - 1))) (ok2 : ∀ f ∈ gs, FldOk w0 f) (l1 : fs.length = m) (l2 : gs.length = m) (hm : m ≤ 200) (hm0 : 0 < m) (k0 : 0 < total fs) (kb : total fs ≤ 20010) (vb : total gs ≤ 20010) :
    Rdr g o L cc 10 m 0 m T fidMap fs gs [] 0 [] where
  node w h f1 f2 := nodeP (ls := []) (lv := 0) h f1 f2 l1 l2 hm hm0 k0 kb vb (Or.inl ⟨rfl, M⟩)
  lvl w K0 K1 V0 V1 h c0 c1 c2 c3 := nLvlP h M.lvl (by omega) K0 K1 V0 V1 m hm c0 c1 c2 c3
  tc w K0 K1 V0 V1 h c0 c1 c2 c3 := nCntP h M.cnt (by omega) K0 K1 V0 V1 m hm c0 c1 c2 c3
  leaf w K0 K1 V0 V1 h c0 c1 c2 c3 := isLeafP h M.lvl (by omega) K0 K1 V0 V1 m hm c0 c1 c2 c3
  subs h0 := by omega
  walk w B0 c0 c1 c2 c3 c4 c5 h hg hA := by
    have c2 := cat_length ok2
    refine (waP h (walkLeaf h (M.none_ 7 (by omega) (by omega) (by omega) (by omega) (by omega) (by omega) (by omega) (by omega)) (M.none_ 6 (by omega) (by omega) (by omega) (by omega) (by omega) (by omega) (by omega) (by omega)) M.vals rfl (by omega))).mono ?_
    rintro e w' ⟨he, hb⟩
    exact ⟨he, _, [], ⟨rfl, fun i hi => absurd hi (by omega)⟩, hA.below hb⟩
theorem rdrP1 {g o L cc m lv : Nat} {T ls : List Nat} {fs gs : List Fld} {w0 : World} (M : MapTold T fs gs m 7 8 (encs 0 ls).length (sumU ls) lv 11 (encs 0 ls)) (ok1 : ∀ f ∈ fs, FldOk w0 f) (ok2 : ∀ f ∈ gs, FldOk w0 f) (h20 : ∀ x ∈ gs, x.n = 20) (l1 : fs.length = m) (l2 : gs.length = m) (hm : m ≤ 200) (hm0 : 0 < m) (k0 : 0 < total fs) (kb : total fs ≤ 20010) (vb : total gs ≤ 20010)
    (hlv : 0 < lv) (hlv2 : lv ≤ 255) (hl : ls.length = m) (hb : ∀ x ∈ ls, x ≤ 2199023255552) :
    Rdr g o L cc 11 m lv (sumU ls) T fidMap fs gs ls m (cat gs) := by
  have hsu : sumU ls ≤ 2199023255552 * 200 := Nat.le_trans (sumU_le hb) (by rw [hl]; exact Nat.mul_le_mul_left _ (by omega))
  have c2 := cat_length ok2
  have t20 := total_20 h20
  exact {
    node := fun w h f1 f2 => nodeP h f1 f2 l1 l2 hm hm0 k0 kb vb (Or.inr ⟨hlv, h20, M⟩)
    lvl := fun w K0 K1 V0 V1 h c0 c1 c2 c3 => nLvlP h M.lvl (by omega) K0 K1 V0 V1 m hm c0 c1 c2 c3
    tc := fun w K0 K1 V0 V1 h c0 c1 c2 c3 => nCntP h M.cnt (by omega) K0 K1 V0 V1 m hm c0 c1 c2 c3
    leaf := fun w K0 K1 V0 V1 h c0 c1 c2 c3 => isLeafP h M.lvl (by omega) K0 K1 V0 V1 m hm c0 c1 c2 c3
    subs := fun _ w K0 K1 V0 V1 h c0 c1 c2 c3 => doorSubsP h (sub_of M ok1 k0 hl (fun x hx => by have := hb x hx; omega)) hm hm0 K0 K1 V0 V1 c0 c1 c2 c3
    walk := fun w B0 c0 c1 c2' c3 c4 c5 h hg hA => waP (R := fun e w' => ∃ av hs, Pieces (cat gs) m hs ∧ Ad w w' B0 c0 c1 c2' c3 c4 c5 av hs) h (walkInn h hg hA M.vals rfl (by rw [c2, t20, l2]) hm (M.none_ 3 (by omega) (by omega) (by omega) (by omega) (by omega) (by omega) (by omega) (by omega)) (M.none_ 6 (by omega) (by omega) (by omega) (by omega) (by omega) (by omega) (by omega) (by omega))) }
end Go.Proofs.YtegohkgmamnkdaaGreat.Msg
/- A node's fields by their place; what is told while it grows. Conditions: the offsets are the fields'. -/
set_option linter.unusedVariables false
namespace Go.Proofs.YtegohkgmamnkdaaGreat.Msg
open Go.ChangeShapes Go.WideShapes Go.ChangeAt Go.RowKit
open Go.Proofs.YtegohkgmamnkdaaGreat.Dig Go.Proofs.YtegohkgmamnkdaaGreat.Mem Go.Proofs.YtegohkgmamnkdaaGreat.Rb Go.Proofs.YtegohkgmamnkdaaGreat.Hn
open Go.Proofs.YtegohkgmamnkdaaGreat.Cnt (encs enc Nums64 OwnU)

theorem mess_wr {w w' : World} {g o L cc n B0 : Nat} {T id : List Nat} (h : Mess w g o L cc n T id) (hw : Wr [B0] w w') (hg : g ≠ B0) : Mess w' g o L cc n T id :=
  ⟨rb_wr h.rb hw (fun b o' e => by injection e with e; injection e with e _; subst e; simpa using hg), h.top, h.m, h.id, h.l8⟩
/-- Fields as slices, by their place; each reads as the node's own, and the calls that ask for them answer so. -/
structure Flz (w : World) (S : List Nat) (m : Nat) (fs : List Fld) (Ask : World → Nat → Value → Prop) (F : Nat → Fld) : Prop where
  xs : ∀ i, i < m → (F i).xs = (fs.getD i nof).xs
  rb : ∀ w', Wr S w w' → ∀ i, i < m → RB w' (F i).a (F i).n (F i).c (F i).xs
  ask : ∀ w', Wr S w w' → ∀ i, i < m → Ask w' i (F i).v
abbrev AskKey (K0 K1 x0 x1 x3 : Value) (m : Nat) (w : World) (i : Nat) (v : Value) : Prop :=
  Calls Tryz.prog 41 #[.agg #[K0, K1, x0, x1, .int .u16 (m : Int), x3], .int .i64 (i : Int)] w fun e w' => e = .returned v ∧ Below w.heap.size w w'
abbrev AskVal (K0 K1 x0 x1 x3 : Value) (m : Nat) (w : World) (i : Nat) (v : Value) : Prop :=
  Calls Tryz.prog 42 #[.agg #[x0, x1, K0, K1, .int .u16 (m : Int), x3], .int .i64 (i : Int)] w fun e w' => e = .returned v ∧ Below w.heap.size w w'
theorem lies_far2 {N g b1 : Nat} {K : Value} (h : Lies N g K) (hg : g < b1) (h2 : b1 + 1 < N) : ∀ a n c, K = .slice a n c → ∀ b o, a = some ⟨b, o, none⟩ → b ∉ [b1, b1 + 1] := fun a n c e b o ea hm => by
  have := h a n c e b o ea
  simp at hm
  omega
theorem own_wrS {w w' : World} {S : List Nat} {B n : Nat} {e : TypeId} {v : Value} {xs : List Value} (h : w.ownsRow B e 1 v n xs) (hw : Wr S w w') (hS : ∀ s ∈ S, s < B) : w'.ownsRow B e 1 v n xs := by
  refine ⟨h.1, ?_⟩
  rcases h.2 with e | ⟨g, cap, cur, e1, e2, e3, e4⟩
  · exact Or.inl e
  · exact Or.inr ⟨g, cap, cur, e1, e2, (hw.block g (Array.getElem?_eq_some_iff.1 e3).1 (fun hm => by have := hS g hm; omega)).trans e3, e4⟩
theorem sld_flz {w : World} {S : List Nat} {m : Nat} {fs : List Fld} {K0 K1 : Value} (h : Sld w K0 K1 fs m) (h0 : ∀ a n c, K0 = .slice a n c → ∀ b o, a = some ⟨b, o, none⟩ → b ∉ S) (h1 : ∀ a n c, K1 = .slice a n c → ∀ b o, a = some ⟨b, o, none⟩ → b ∉ S) {wf : World} (ok : ∀ f ∈ fs, FldOk wf f) (l : fs.length = m) (x0 x1 x3 : Value) (c0 : x0.oneCell' = true) (c1 : x1.oneCell' = true) (c3 : x3.oneCell' = true) :
    (∃ F, Flz w S m fs (AskKey K0 K1 x0 x1 x3 m) F) ∧ (∃ F, Flz w S m fs (AskVal K0 K1 x0 x1 x3 m) F) := by
  obtain ⟨a, n, c, a', q, d, os, rfl, rfl, r1, r2, hn, hq, hq2, hi⟩ := h
  have r1' := fun w' (hw : Wr S w w') => rb_wr r1 hw (h0 _ _ _ rfl)
  have r2' := fun w' (hw : Wr S w w') => rb_wr r2 hw (h1 _ _ _ rfl)
  have hcl := cat_length ok
  have hl1 := r1.len
  have hc := r1.le
  have hct := r1.top
  unfold maxLen at hct
  have hto : total fs = n := by rw [← hcl, hl1]
  have hle : ∀ i, i < m → total (fs.take i) + (fs.getD i nof).n ≤ n := fun i hi => by
    have e := total_succ (fs := fs) (i := i) (by omega)
    have := total_append (fs.take (i + 1)) (fs.drop (i + 1))
    rw [List.take_append_drop, hto] at this
    omega
  have X : ∀ i, i < m → (⟨cutA a c (total (fs.take i)), (fs.getD i nof).n, c - total (fs.take i), (fs.getD i nof).xs⟩ : Fld).xs = (fs.getD i nof).xs := fun _ _ => rfl
  have R : ∀ w', Wr S w w' → ∀ i, i < m → RB w' (cutA a c (total (fs.take i))) (fs.getD i nof).n (c - total (fs.take i)) (fs.getD i nof).xs := fun w' hw i hi => by
    have h3 := hle i hi
    have := (r1' w' hw).cut (lo := total (fs.take i)) (hi := total (fs.take i) + (fs.getD i nof).n) (by omega) (by omega)
    rwa [Nat.add_sub_cancel_left, cat_at ok (by omega)] at this
  refine ⟨⟨fun i => ⟨cutA a c (total (fs.take i)), (fs.getD i nof).n, c - total (fs.take i), (fs.getD i nof).xs⟩, X, R, fun w' hw i him => ?_⟩, ⟨fun i => ⟨cutA a c (total (fs.take i)), (fs.getD i nof).n, c - total (fs.take i), (fs.getD i nof).xs⟩, X, R, fun w' hw i him => ?_⟩⟩
  · obtain ⟨g1, g2, g3⟩ := hi i him
    have h3 := hle i him
    have e := total_succ (fs := fs) (i := i) (by omega)
    have := nKey w' a a' n c q d i (total (fs.take i)) (total (fs.take (i + 1))) os (r2' w' hw) hn hc hq hq2 g1 g2 g3 (by omega) (by omega) (by omega) x0 x1 x3 m c0 c1 c3
    rw [e, Nat.add_sub_cancel_left] at this
    exact this
  · obtain ⟨g1, g2, g3⟩ := hi i him
    have h3 := hle i him
    have e := total_succ (fs := fs) (i := i) (by omega)
    have := dVal w' a a' n c q d i (total (fs.take i)) (total (fs.take (i + 1))) os (r2' w' hw) hn hc hq hq2 g1 g2 g3 (by omega) (by omega) (by omega) x0 x1 x3 m c0 c1 c3
    rw [e, Nat.add_sub_cancel_left] at this
    exact this
/-- The first k as values. -/
def vsF (F : Nat → Fld) (k : Nat) : List Value := (List.range k).map fun i => (F i).v
theorem vsF_succ (F : Nat → Fld) (k : Nat) : vsF F (k + 1) = vsF F k ++ [(F k).v] := by simp [vsF, List.range_succ]
theorem vsF_length (F : Nat → Fld) (k : Nat) : (vsF F k).length = k := by simp [vsF]
theorem vsF_get (F : Nat → Fld) {k i : Nat} (h : i < k) : (vsF F k)[i]? = some (F i).v := by simp [vsF, h]

/-- What is told while keys and values come in: block B0 holds the cells A; two rows of the call's own. -/
structure Lq (w3 w : World) (B0 : Nat) (A : Array Value) (ks vs : Value) (k1 k2 : Nat) (L1 L2 : List Value) : Prop where
  wr : Wr [B0] w3 w
  b0 : w.heap[B0]? = some (.cells A 42 (0, 0))
  ok : w.ownsRow w3.heap.size 26 1 ks k1 L1
  ov : w.ownsRow w3.heap.size 26 1 vs k2 L2
  ne : ∀ q, ks.ownBlock = some q → vs.ownBlock ≠ some q
  lt : B0 < w3.heap.size
section
variable {w3 w w' : World} {B0 : Nat} {A : Array Value} {ks vs ks' vs' : Value} {k1 k2 k1' k2' : Nat} {L1 L2 L1' L2' : List Value}
theorem own_below {B n : Nat} {e : TypeId} {v : Value} {xs : List Value} (h : w.ownsRow B e 1 v n xs) (hb : Below w.heap.size w w') : w'.ownsRow B e 1 v n xs :=
  h.kept (row := none) ⟨hb.os, hb.tape, hb.output, hb.size, fun k hk _ => hb.block k hk⟩ (by cases v.ownBlock <;> simp)
theorem Lq.below (h : Lq w3 w B0 A ks vs k1 k2 L1 L2) (hb : Below w.heap.size w w') : Lq w3 w' B0 A ks vs k1 k2 L1 L2 :=
  ⟨h.wr.trans (Wr.of_below hb), (hb.block _ (Nat.lt_of_lt_of_le h.lt h.wr.size)).trans h.b0, own_below h.ok hb, own_below h.ov hb, h.ne, h.lt⟩
theorem Lq.growK (h : Lq w3 w B0 A ks vs k1 k2 L1 L2) (O : w'.ownsRow w3.heap.size 26 1 ks' k1' L1') (G : w.grownBy w' ks.ownBlock) (hv : ks'.ownBlock = ks.ownBlock ∨ ks'.ownBlock = some w.heap.size) : Lq w3 w' B0 A ks' vs k1' k2 L1' L2 := by
  have hA : ∀ k, ks.ownBlock = some k → w3.heap.size ≤ k := fun k hk => (h.ok.lt k hk).1
  have hlt := h.lt
  refine ⟨h.wr.then (T := ks.ownBlock.toList) (wr_grown G (fun k hk => by rw [hk]; simp)) (fun x hx => Or.inr (hA x (by simpa using hx))),
    (G.block B0 (Nat.lt_of_lt_of_le hlt h.wr.size) (fun e => by have := hA B0 e.symm; omega)).trans h.b0, O, h.ov.kept G ?_, fun q hq => ?_, hlt⟩
  · cases hvs : vs.ownBlock with
    | none => exact Or.inl rfl
    | some q => exact Or.inr fun e => h.ne q e.symm hvs
  · rcases hv with hv | hv
    · rw [hv] at hq; exact h.ne q hq
    · rw [hv] at hq
      injection hq with hq
      intro e
      have := (h.ov.lt q e).2
      omega
theorem Lq.growV (h : Lq w3 w B0 A ks vs k1 k2 L1 L2) (O : w'.ownsRow w3.heap.size 26 1 vs' k2' L2') (G : w.grownBy w' vs.ownBlock) (hv : vs'.ownBlock = vs.ownBlock ∨ vs'.ownBlock = some w.heap.size) : Lq w3 w' B0 A ks vs' k1 k2' L1 L2' := by
  have hA : ∀ k, vs.ownBlock = some k → w3.heap.size ≤ k := fun k hk => (h.ov.lt k hk).1
  have hlt := h.lt
  refine ⟨h.wr.then (T := vs.ownBlock.toList) (wr_grown G (fun k hk => by rw [hk]; simp)) (fun x hx => Or.inr (hA x (by simpa using hx))),
    (G.block B0 (Nat.lt_of_lt_of_le hlt h.wr.size) (fun e => by have := hA B0 e.symm; omega)).trans h.b0, h.ok.kept G ?_, O, fun q hq e => ?_, hlt⟩
  · cases hks : ks.ownBlock with
    | none => exact Or.inl rfl
    | some q => exact Or.inr fun e => h.ne q hks e.symm
  · rcases hv with hv | hv
    · rw [hv] at e; exact h.ne q hq e
    · rw [hv] at e
      injection e with e
      have := (h.ok.lt q hq).2
      omega
theorem Lq.set (h : Lq w3 w B0 A ks vs k1 k2 L1 L2) (i : Nat) (v : Value) : Lq w3 (w.setCell ⟨B0, i, none⟩ v) B0 (A.setIfInBounds i v) ks vs k1 k2 L1 L2 := by
  have hS := Wr.setCell (S := [B0]) (g := B0) (o := i) w v (by simp)
  exact ⟨h.wr.trans hS, setCell_heap h.b0, own_wr h.ok hS h.lt, own_wr h.ov hS h.lt, h.ne, h.lt⟩
theorem Lq.cell (h : Lq w3 w B0 A ks vs k1 k2 L1 L2) (i : Nat) : w.cell? ⟨B0, i, none⟩ = A[i]? := by simp [World.cell?, h.b0]
theorem Lq.frozen (h : Lq w3 w B0 A ks vs k1 k2 L1 L2) (i : Nat) : w.frozen? ⟨B0, i, none⟩ = false := by simp [World.frozen?, h.b0]
end
theorem Lq.says {w3 w : World} {B0 : Nat} {l1 l2 l3 x y z u ks vs : Value} {k1 k2 : Nat} {L1 L2 : List Value} (h : Lq w3 w B0 #[l1, l2, l3, x, y, z, u] ks vs k1 k2 L1 L2) : w.cell? ⟨B0, 3, none⟩ = some x ∧ w.cell? ⟨B0, 4, none⟩ = some y := ⟨h.cell 3, h.cell 4⟩
theorem own_slice {w : World} {B n : Nat} {e : TypeId} {v : Value} {xs : List Value} (h : w.ownsRow B e 1 v n xs) : ∃ a c, v = .slice a n c ∧ n ≤ c ∧ c ≤ maxLen := by
  rcases h.2 with ⟨e, h0⟩ | ⟨g, cap, cur, hv, _, _, hle, hmax, _⟩
  · subst h0; exact ⟨none, 0, e, Nat.le_refl _, Nat.zero_le _⟩
  · exact ⟨_, _, hv, hle, hmax⟩
/-- Rows of bytes, whatever they are. -/
structure Flr (w : World) (a : Option Addr) (n c : Nat) (fs : List Fld) : Prop where
  len : fs.length = n
  le : n ≤ c
  top : c ≤ maxLen
  ok : ∀ f ∈ fs, RB w f.a f.n f.c f.xs
  at_ : 0 < n → ∃ b o, a = some ⟨b, o, none⟩ ∧ b < w.heap.size ∧ ∀ i, i < n → w.cell? ⟨b, o + i, none⟩ = some (fs.getD i nof).v
theorem own_flr {w : World} {B n : Nat} {e : TypeId} {v : Value} {fs : List Fld} (h : w.ownsRow B e 1 v n (fs.map Fld.v)) (ok : ∀ f ∈ fs, RB w f.a f.n f.c f.xs) : ∃ a c, v = .slice a n c ∧ Flr w a n c fs := by
  have hl : fs.length = n := by have := h.1; simpa using this
  rcases h.2 with ⟨e, h0⟩ | ⟨g, cap, cur, hv, hb, hg, hle, hmax, hsz, htake⟩
  · subst h0
    exact ⟨none, 0, e, hl, Nat.le_refl _, Nat.zero_le _, ok, fun h => absurd h (by omega)⟩
  · refine ⟨_, _, hv, hl, hle, hmax, ok, fun h0 => ⟨g, 0, rfl, (Array.getElem?_eq_some_iff.1 hg).1, fun i hi => ?_⟩⟩
    have hc := h.cells (g := g) (by rw [hv]; rfl) i (fs.getD i nof).v (by rw [List.getElem?_map, List.getD_eq_getElem?_getD, List.getElem?_eq_getElem (show i < fs.length by omega)]; rfl)
    rw [← hc]
    unfold Addr.add
    by_cases h00 : i = 0
    · subst h00; simp
    · simp [h00]
theorem Flr.drewN {w : World} {a : Option Addr} {n c : Nat} {fs : List Fld} (h : Flr w a n c fs) (m : Nat) : Flr (w.drewN m) a n c fs :=
  ⟨h.len, h.le, h.top, fun f hf => (h.ok f hf).below ⟨rfl, rfl, rfl, Nat.le_refl _, fun _ _ => rfl⟩ (Nat.le_refl _), h.at_⟩
theorem Flds.flr {w : World} {a : Option Addr} {n c : Nat} {fs : List Fld} (h : Flds w a n c fs) : Flr w a n c fs := ⟨h.len, h.le, h.top, fun f hf => (h.ok f hf).1, h.at_⟩
theorem vsF_map (F : Nat → Fld) (k : Nat) : vsF F k = ((List.range k).map F).map Fld.v := by simp [vsF]

theorem yield_row {P : Program} {ops : Array Oper} {S : World → Prop} {a : Act} {o : Oper} (hw : Region.wanted o (yielded ops a.tmps) = true)
    (ty : TypeId) (x : Operand) (ho : o.op = .load ty x) (g : Nat) (hx : a.eval x = .pointer (some ⟨g, 0, none⟩)) (t : TypeId) (cs : Array Value) (fr : Nat × Nat) (d : TypeDesc)
    (hg : ∀ w, S w → w.heap[g]? = some (.cells cs t fr)) (hu : P.underlying ty = some d) (hd : (match d with | .struct _ | .array _ _ => true | _ => false) = true) (hi : (P.info? ty).map (·.size) = some cs.size) : YieldsIf P ops S o (.agg cs) a :=
  Or.inl ⟨hw, fun w hS => by
    have hr := run_loadVar_row (P := P) w g t ty cs fr d (hg w hS) hu hd hi
    unfold execOp
    simp only [ho, hx, Instr.loadAt, Instr.sureAddr, Sem.run_bind, Sem.run_pure, Result.andThen_ok, hr]⟩
theorem results_rc {P : Program} {fn : Func} {p q : Tmp} {ty u : TypeId} (h : fn.results = #[.cell p ty, .cell q u]) (tmps : Array Value) (w : World) (g g' : Nat) (A : Array Value) (d : TypeDesc) (b : Bool)
    (hp : tmps.getD p undef = .pointer (some ⟨g, 0, none⟩)) (hq : tmps.getD q undef = .pointer (some ⟨g', 0, none⟩)) (hg : w.heap[g]? = some (.cells A ty (0, 0))) (hu : P.underlying ty = some d) (hd : (match d with | .struct _ | .array _ _ => true | _ => false) = true)
    (hi : (P.info? ty).map (·.size) = some A.size) (hl : (loadVar u ⟨g', 0, none⟩).run P w = .ok (.bool b) w) : (results fn tmps).run P w = .ok (.tuple #[.agg A, .bool b]) w := by
  have hp' : tmps[p]?.getD undef = .pointer (some ⟨g, 0, none⟩) := by simpa using hp
  have hq' : tmps[q]?.getD undef = .pointer (some ⟨g', 0, none⟩) := by simpa using hq
  simp [results, h, hp', hq', asAddr, run_loadVar_row w g ty ty A (0, 0) d hg hu hd hi, hl, Result.andThen, Sem.run_bind]
theorem idleR (p q : Addr) (w : World) :
    CallsD Tryz.prog 36 #[.pointer (some p), .pointer (some q)] .returning w fun e u' w' => e = .returned (.tuple #[]) ∧ u' = .returning ∧ w' = w := by
  refine callsD_of_wpS Tryz.func36 rfl fun c₀ cs hu => ?_
  apply wpS_seq
  apply wpS_region
  simp [wpOpsS, go_sem, recoverD, hu, Tryz.ntmps36, Exit.thenS]
  refine wpS_cond (t := false) (by simp [Act.eval, Array.replicate]) ?_
  simp only [Bool.false_eq_true, if_false]
  refine wpS_of_wp (wp_skip ?_)
  cases c₀
  simp_all [bodyPostS, results, Tryz.results36]
end Go.Proofs.YtegohkgmamnkdaaGreat.Msg
