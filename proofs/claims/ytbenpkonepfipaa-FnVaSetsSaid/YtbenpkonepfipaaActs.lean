/- Acts that came in, and what the laws ask of their sizes, walked. No condition. -/
import Derived.Test.YtbenpkonepfipaaRws
set_option linter.unusedVariables false
namespace Go.Proofs.Ytbenpkonepfipaa.Acts
open Go.ChangeShapes Go.WideShapes Go.ChangeAt Go.RowKit
open Go.Proofs.Ytbenpkonepfipaa.Dig Go.Proofs.Ytbenpkonepfipaa.Mem Go.Proofs.Ytbenpkonepfipaa.Rb

/-- It ends with a Bool. -/
def IsB (e : Ending) : Prop := ∃ r : Bool, e = .returned (.bool r)
/-- A slice of cuts, of which the laws ask how long their values are. -/
structure Cuts (w : World) (a : Option Addr) (n c : Nat) : Prop where
  le : n ≤ c
  top : c ≤ maxLen
  at_ : 0 < n → ∃ b o, a = some ⟨b, o, none⟩ ∧ b < w.heap.size ∧ ∀ i, i < n → ∃ (ca : Option Addr) (cn cc : Nat) (p q : Bool), cn ≤ maxLen ∧
    w.cell? ⟨b, o + i * 3, none⟩ = some (.slice ca cn cc) ∧ w.cell? ⟨b, o + i * 3 + 1, none⟩ = some (.bool p) ∧ w.cell? ⟨b, o + i * 3 + 2, none⟩ = some (.bool q)
theorem Cuts.below {w w' : World} {a : Option Addr} {n c : Nat} (h : Cuts w a n c) (hb : Below w.heap.size w w') : Cuts w' a n c :=
  ⟨h.le, h.top, fun hn => by
    obtain ⟨b, o, e, hlt, hc⟩ := h.at_ hn
    refine ⟨b, o, e, Nat.lt_of_lt_of_le hlt hb.size, fun i hi => ?_⟩
    obtain ⟨ca, cn, cc, p, q, h0, h1, h2, h3⟩ := hc i hi
    exact ⟨ca, cn, cc, p, q, h0, (hb.cell (p := ⟨b, o + i * 3, none⟩) hlt).trans h1, (hb.cell (p := ⟨b, o + i * 3 + 1, none⟩) hlt).trans h2, (hb.cell (p := ⟨b, o + i * 3 + 2, none⟩) hlt).trans h3⟩⟩

/-- An act. -/
structure ActV where
  k : Int
  p : Int
  q : Int
  ka : Option Addr
  kn : Nat
  kc : Nat
  ks : List Nat
  va : Option Addr
  vn : Nat
  vc : Nat
  vs : List Nat
  sa : Option Addr
  sn : Nat
  sc : Nat
  ta : Option Addr
  tn : Nat
  tc : Nat
def noAct : ActV := ⟨0, 0, 0, none, 0, 0, [], none, 0, 0, [], none, 0, 0, none, 0, 0⟩
structure ActOk (w : World) (x : ActV) : Prop where
  key : RB w x.ka x.kn x.kc x.ks
  knil : x.ka = none → x.kc = 0
  value : RB w x.va x.vn x.vc x.vs
  vnil : x.va = none → x.vc = 0
  start : Cuts w x.sa x.sn x.sc
  stop : Cuts w x.ta x.tn x.tc
theorem ActOk.below {w w' : World} {x : ActV} (h : ActOk w x) (hb : Below w.heap.size w w') : ActOk w' x :=
  ⟨h.key.below hb (Nat.le_refl _), h.knil, h.value.below hb (Nat.le_refl _), h.vnil, h.start.below hb, h.stop.below hb⟩
/-- The seven cells of an act at a place. -/
structure ActAt (w : World) (b o : Nat) (x : ActV) : Prop where
  c0 : w.cell? ⟨b, o, none⟩ = some (.int .i64 x.k)
  c1 : w.cell? ⟨b, o + 1, none⟩ = some (.int .i64 x.p)
  c2 : w.cell? ⟨b, o + 2, none⟩ = some (.int .i64 x.q)
  c3 : w.cell? ⟨b, o + 3, none⟩ = some (.slice x.ka x.kn x.kc)
  c4 : w.cell? ⟨b, o + 4, none⟩ = some (.slice x.va x.vn x.vc)
  c5 : w.cell? ⟨b, o + 5, none⟩ = some (.slice x.sa x.sn x.sc)
  c6 : w.cell? ⟨b, o + 6, none⟩ = some (.slice x.ta x.tn x.tc)
theorem ActAt.below {w w' : World} {b o B : Nat} {x : ActV} (h : ActAt w b o x) (hb : Below B w w') (hlt : b < B) : ActAt w' b o x :=
  ⟨(hb.cell (p := ⟨b, o, none⟩) hlt).trans h.c0, (hb.cell (p := ⟨b, o + 1, none⟩) hlt).trans h.c1, (hb.cell (p := ⟨b, o + 2, none⟩) hlt).trans h.c2, (hb.cell (p := ⟨b, o + 3, none⟩) hlt).trans h.c3,
   (hb.cell (p := ⟨b, o + 4, none⟩) hlt).trans h.c4, (hb.cell (p := ⟨b, o + 5, none⟩) hlt).trans h.c5, (hb.cell (p := ⟨b, o + 6, none⟩) hlt).trans h.c6⟩
/-- A slice of acts. -/
structure Acts (w : World) (a : Option Addr) (n c : Nat) (xs : List ActV) : Prop where
  len : xs.length = n
  le : n ≤ c
  top : c ≤ maxLen
  ok : ∀ x ∈ xs, ActOk w x
  at_ : 0 < n → ∃ b o, a = some ⟨b, o, none⟩ ∧ b < w.heap.size ∧ ∀ i, i < n → ActAt w b (o + i * 7) (xs.getD i noAct)
theorem Acts.below {w w' : World} {a : Option Addr} {n c : Nat} {xs : List ActV} (h : Acts w a n c xs) (hb : Below w.heap.size w w') : Acts w' a n c xs :=
  ⟨h.len, h.le, h.top, fun x hx => (h.ok x hx).below hb, fun hn => by
    obtain ⟨b, o, e, hlt, hc⟩ := h.at_ hn
    exact ⟨b, o, e, Nat.lt_of_lt_of_le hlt hb.size, fun i hi => (hc i hi).below hb hlt⟩⟩
theorem act_mem {xs : List ActV} {i : Nat} (h : i < xs.length) : xs.getD i noAct ∈ xs := by
  rw [List.getD_eq_getElem?_getD, List.getElem?_eq_getElem h]; exact List.getElem_mem h

set_option maxRecDepth 100000 in
theorem zzFits7 (w : World) (ca : Option Addr) (cn cc : Nat) (p q : Bool) (hn : cn ≤ maxLen) :
    Calls Try.prog 79 #[.agg #[.slice ca cn cc, .bool p, .bool q]] w fun e w' => IsB e ∧ Below w.heap.size w w' := by
  unfold maxLen at hn
  by_cases g : 2147483647 < cn
  · have q1 : (2147483647 : Int) < (cn : Int) := by omega
    go_enter Try.func79, Try.ntmps79
    go_wp2_with fail
    go_ret
    exact ⟨⟨_, rfl⟩, by go_grown⟩
  · have q1 : ¬ (2147483647 : Int) < (cn : Int) := by omega
    go_enter Try.func79, Try.ntmps79
    go_wp2_with fail
    go_ret
    exact ⟨⟨_, rfl⟩, by go_grown⟩

set_option maxRecDepth 100000 in
theorem zzFits6 (w : World) (a : Option Addr) (n c : Nat) (h : Cuts w a n c) :
    Calls Try.prog 75 #[.slice a n c] w fun e w' => IsB e ∧ Below w.heap.size w w' := by
  have H := Lib.hid h
  have hc := h.le
  have ht := h.top
  unfold maxLen at ht
  clear h
  by_cases g1 : 2147483647 < n
  · have q1 : (2147483647 : Int) < (n : Int) := by omega
    go_enter Try.func75, Try.ntmps75
    go_wp2_with fail
    go_ret
    exact ⟨⟨_, rfl⟩, Below.refl _ _⟩
  · have q1 : ¬ (2147483647 : Int) < (n : Int) := by omega
    go_enter Try.func75, Try.ntmps75
    go_wp2_with fail
    go_loopw [10] (fun iv wr => ∃ k : Nat, k ≤ n ∧ iv = .int .i64 (k : Int) ∧ Below w.heap.size w wr) (fun iv _ => n - (intOf iv).toNat)
    case atStart => exact ⟨0, by omega, rfl, Below.refl _ _⟩
    case round =>
      obtain ⟨k, hk, rfl, hbel⟩ := hrel
      by_cases hlt : k < n
      · obtain ⟨b, o, ea, hb2, hcell⟩ := (H.out.below hbel).at_ (by omega)
        subst ea
        obtain ⟨ca, cn, cc, p, q, hcn, g0, g1, g2⟩ := hcell k hlt
        have K := Lib.hid fun w' => zzFits7 w' ca cn cc p q hcn
        have BL := Lib.hid hbel
        have hws := hbel.size
        clear hcell hcn hbel
        go_wp2_with (go_at_call 79; (with_reducible refine (K.out _).mono ?_); rintro e w1 ⟨⟨r, rfl⟩, hb1⟩; have B1 := Lib.hid (((BL.out.alloc hws _).trans (hb1.mono (by simp; omega)))); clear hb1; cases r)
        · go_ret
          exact ⟨⟨_, rfl⟩, B1.out⟩
        · go_roundw
          case rel => exact ⟨k + 1, by omega, by go_num, B1.out⟩
          case measure => simp [intOf]; omega
      · obtain rfl : k = n := by omega
        have BL := Lib.hid hbel
        clear hbel
        go_wp2_with fail
        go_ret
        exact ⟨⟨_, rfl⟩, BL.out⟩

theorem zzFits5 (w : World) (sa ta : Option Addr) (sn sc tn tc : Nat) (h : Cuts w sa sn sc) (h' : Cuts w ta tn tc) :
    Calls Try.prog 69 #[.agg #[.slice sa sn sc, .slice ta tn tc]] w fun e w' => IsB e ∧ Below w.heap.size w w' := by
  have K := Lib.hid fun w' (hb : Below w.heap.size w w') => zzFits6 w' sa sn sc (h.below hb)
  have K' := Lib.hid fun w' (hb : Below w.heap.size w w') => zzFits6 w' ta tn tc (h'.below hb)
  have B0 := Lib.hid ((Below.refl w.heap.size w).alloc (Nat.le_refl _) (.cells #[.slice sa sn sc, .slice ta tn tc] 57))
  have c1 : (w.alloc (.cells #[.slice sa sn sc, .slice ta tn tc] 57)).cell? ⟨w.heap.size, 1, none⟩ = some (.slice ta tn tc) := by simp only [World.cell?, heap_alloc_new]; rfl
  clear h h'
  go_enter Try.func69, Try.ntmps69
  go_wp2_with (first
    | (go_at_call 75; (with_reducible refine (K.out _ B0.out).mono ?_); rintro e w1 ⟨⟨r, rfl⟩, hb1⟩; have B1 := Lib.hid (B0.out.trans (hb1.mono (by simp))); have k1 := (hb1.cell (p := ⟨w.heap.size, 1, none⟩) (by simp)).trans c1; clear hb1; cases r)
    | (go_at_call 75; (with_reducible refine (K'.out _ B1.out).mono ?_); rintro e w2 ⟨⟨r, rfl⟩, hb2⟩; have B2 := Lib.hid (B1.out.trans (hb2.mono B1.out.size)); clear hb2; cases r))
  all_goals (go_ret; first | exact ⟨⟨_, rfl⟩, B2.out⟩ | exact ⟨⟨_, rfl⟩, B1.out⟩)

set_option maxRecDepth 100000 in
theorem zzFits4 (w : World) (x : ActV) (h : ActOk w x) :
    Calls Try.prog 52 #[.agg #[.int .i64 x.k, .int .i64 x.p, .int .i64 x.q, .slice x.ka x.kn x.kc, .slice x.va x.vn x.vc, .slice x.sa x.sn x.sc, .slice x.ta x.tn x.tc]] w fun e w' => IsB e ∧ Below w.heap.size w w' := by
  obtain ⟨k, p, q, ka, kn, kc, ks, va, vn, vc, vs, sa, sn, sc, ta, tn, tc⟩ := x
  have K := Lib.hid fun w' (hb : Below w.heap.size w w') => zzFits5 w' sa ta sn sc tn tc (h.start.below hb) (h.stop.below hb)
  have t1 : kn ≤ maxLen := Nat.le_trans h.key.le h.key.top
  have t2 : vn ≤ maxLen := Nat.le_trans h.value.le h.value.top
  unfold maxLen at t1 t2
  have B0 := Lib.hid ((Below.refl w.heap.size w).alloc (Nat.le_refl _) (.cells #[.int .i64 k, .int .i64 p, .int .i64 q, .slice ka kn kc, .slice va vn vc, .slice sa sn sc, .slice ta tn tc] 59))
  clear h
  by_cases g1 : 2147483647 < kn
  · have q1 : (2147483647 : Int) < (kn : Int) := by omega
    go_enter Try.func52, Try.ntmps52
    go_wp2_with fail
    go_ret
    exact ⟨⟨_, rfl⟩, B0.out⟩
  have q1 : ¬ (2147483647 : Int) < (kn : Int) := by omega
  by_cases g2 : 2147483647 < vn
  · have q2 : (2147483647 : Int) < (vn : Int) := by omega
    go_enter Try.func52, Try.ntmps52
    go_wp2_with fail
    go_ret
    exact ⟨⟨_, rfl⟩, B0.out⟩
  have q2 : ¬ (2147483647 : Int) < (vn : Int) := by omega
  go_enter Try.func52, Try.ntmps52
  go_wp2_with (go_at_call 69; (with_reducible refine (K.out _ B0.out).mono ?_); rintro e w1 ⟨⟨r, rfl⟩, hb1⟩; have B1 := Lib.hid (B0.out.trans (hb1.mono (by simp))); clear hb1; cases r)
  all_goals (go_ret; exact ⟨⟨_, rfl⟩, B1.out⟩)

set_option maxRecDepth 100000 in
theorem zzFits3 (w : World) (a : Option Addr) (n c : Nat) (xs : List ActV) (h : Acts w a n c xs) :
    Calls Try.prog 25 #[.slice a n c] w fun e w' => IsB e ∧ Below w.heap.size w w' := by
  have H := Lib.hid h
  have hc := h.le
  have ht := h.top
  unfold maxLen at ht
  clear h
  by_cases g1 : 2147483647 < n
  · have q1 : (2147483647 : Int) < (n : Int) := by omega
    go_enter Try.func25, Try.ntmps25
    go_wp2_with fail
    go_ret
    exact ⟨⟨_, rfl⟩, Below.refl _ _⟩
  · have q1 : ¬ (2147483647 : Int) < (n : Int) := by omega
    go_enter Try.func25, Try.ntmps25
    go_wp2_with fail
    go_loopw [10] (fun iv wr => ∃ k : Nat, k ≤ n ∧ iv = .int .i64 (k : Int) ∧ Below w.heap.size w wr) (fun iv _ => n - (intOf iv).toNat)
    case atStart => exact ⟨0, by omega, rfl, Below.refl _ _⟩
    case round =>
      obtain ⟨k, hk, rfl, hbel⟩ := hrel
      by_cases hlt : k < n
      · have HA := H.out.below hbel
        obtain ⟨b, o, ea, hb2, hcell⟩ := HA.at_ (by omega)
        subst ea
        obtain ⟨x, hx⟩ : ∃ x, x = xs.getD k noAct := ⟨_, rfl⟩
        have hat := hcell k hlt
        have hok := HA.ok (xs.getD k noAct) (act_mem (by rw [HA.len]; exact hlt))
        rw [← hx] at hat hok
        obtain ⟨c0, c1, c2, c3, c4, c5, c6⟩ := hat
        have K := Lib.hid fun w' (hb : Below wr.heap.size wr w') => zzFits4 w' x (hok.below hb)
        have BL := Lib.hid hbel
        have hws := hbel.size
        have B0 := Lib.hid ((Below.refl wr.heap.size wr).alloc (Nat.le_refl _) (.cells #[.int .i64 x.k, .int .i64 x.p, .int .i64 x.q, .slice x.ka x.kn x.kc, .slice x.va x.vn x.vc, .slice x.sa x.sn x.sc, .slice x.ta x.tn x.tc] 59))
        clear hcell hx hok HA hbel
        go_wp2_with (go_at_call 52; (with_reducible refine (K.out _ B0.out).mono ?_); rintro e w1 ⟨⟨r, rfl⟩, hb1⟩; have B1 := Lib.hid (BL.out.trans ((B0.out.trans (hb1.mono (by simp))).mono hws)); clear hb1; cases r)
        · go_ret
          exact ⟨⟨_, rfl⟩, B1.out⟩
        · go_roundw
          case rel => exact ⟨k + 1, by omega, by go_num, B1.out⟩
          case measure => simp [intOf]; omega
      · obtain rfl : k = n := by omega
        have BL := Lib.hid hbel
        clear hbel
        go_wp2_with fail
        go_ret
        exact ⟨⟨_, rfl⟩, BL.out⟩
end Go.Proofs.Ytbenpkonepfipaa.Acts
