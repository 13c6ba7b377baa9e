/- A builder of messages: an object's slots, a vector's start and end, walked. Condition: it grows once at most. -/
import Derived.Test.YtegohkgmamnkdaaGreatBld7
set_option linter.unusedVariables false
namespace Go.Proofs.YtegohkgmamnkdaaGreat.Msg
open Go.ChangeShapes Go.WideShapes Go.ChangeAt Go.RowKit
open Go.Proofs.YtegohkgmamnkdaaGreat.Dig Go.Proofs.YtegohkgmamnkdaaGreat.Mem Go.Proofs.YtegohkgmamnkdaaGreat.Rb

/-- A block of offsets. -/
def us (vs : List Nat) : List Value := vs.map fun (v : Nat) => Value.int .u32 (v : Int)
def UO (vs : List Nat) : Obj := .cells (us vs).toArray 50 (0, 0)
theorem us_length (vs : List Nat) : (us vs).length = vs.length := by simp [us]
theorem us_get {vs : List Nat} {i : Nat} (h : i < vs.length) : (us vs)[i]? = some (.int .u32 ((vs.getD i 0 : Nat) : Int)) := by
  simp [us, List.getElem?_eq_getElem h]
theorem us_set (vs : List Nat) (i v : Nat) : (us vs).toArray.setIfInBounds i (.int .u32 (v : Int)) = (us (vs.set i v)).toArray := by
  simp [us, List.map_set]

theorem drewN2 (w : World) (n m : Nat) : (w.drewN n).drewN m = w.drewN (n + m) := by simp [World.drewN, Nat.add_assoc]
theorem quiet_off {P : Program} {f : FuncId} {args : Array Value} {w : World} {n : Nat} {v : Value}
    (h : Calls P f args (w.drewN n) fun e w' => e = .returned v ∧ ∃ m, w' = (w.drewN n).drewN m) : Calls P f args (w.drewN n) fun e w'' => e = .returned v ∧ ∃ m, w'' = w.drewN m :=
  h.mono fun _ _ ⟨he, m, hm⟩ => ⟨he, n + m, by rw [hm, drewN2]⟩

section
variable {w0 w : World} {B N0 r : Nat} {K : List (Nat × Obj)} {xs : List Nat} {s : St}
theorem Bx.keep (h : Bx w0 w B N0 r K xs s) : ∀ p ∈ K, w.heap[p.1]? = some p.2 ∧ p.1 ≠ B ∧ w0.heap.size ≤ p.1 := by
  obtain ⟨g, N, C, H, h⟩ := h
  exact fun p hp => ⟨(h.keep p hp).1, (h.keep p hp).2.1, (h.keep p hp).2.2.2⟩
theorem Bx.setK {V i : Nat} {A : Array Value} {t : TypeId} {fr : Nat × Nat} {v : Value} (h : Bx w0 w B N0 r ((V, .cells A t fr) :: K) xs s) (hV : ∀ p ∈ K, p.1 ≠ V) :
    Bx w0 (w.setCell ⟨V, i, none⟩ v) B N0 r ((V, .cells (A.setIfInBounds i v) t fr) :: K) xs s := by
  obtain ⟨g, N, C, H, h⟩ := h
  obtain ⟨k1, k2, k3, k4⟩ := h.keep _ (List.mem_cons_self ..)
  have hw := Wr.setCell (S := [V]) (g := V) (o := i) w v (by simp)
  refine ⟨g, N, C, H, h.bd.later hw (by simpa using Ne.symm k2) (by simpa using Ne.symm k3), h.nn, h.room, h.bel.trans (hw.below (by simpa using k4) h.bel.size), h.hB, h.hg, fun p hp => ?_⟩
  rcases List.mem_cons.1 hp with rfl | hp
  · exact ⟨setCell_heap k1, k2, k3, k4⟩
  · obtain ⟨j1, j2, j3, j4⟩ := h.keep p (List.mem_cons_of_mem _ hp)
    exact ⟨(hw.block p.1 (lt_of_obj j1) (by simpa using hV p hp)).trans j1, j2, j3, j4⟩
/-- A new block. -/
theorem Bx.push (h : Bx w0 w B N0 r K xs s) (o : Obj) : Bx w0 (w.alloc o) B N0 r ((w.heap.size, o) :: K) xs s := by
  obtain ⟨g, N, C, H, h⟩ := h
  have hw : Wr [] w (w.alloc o) := Wr.of_below ((Below.refl _ _).alloc (Nat.le_refl _) _)
  obtain ⟨Z, hz⟩ := h.bd
  have h1 := hz.lt
  have h2 := hz.buf.lt
  refine ⟨g, N, C, H, h.bd.later hw (by simp) (by simp), h.nn, h.room, h.bel.trans (hw.below (by simp) h.bel.size), h.hB, h.hg, fun p hp => ?_⟩
  rcases List.mem_cons.1 hp with rfl | hp
  · exact ⟨heap_alloc_new _ _, by simp only; omega, by simp only; omega, h.bel.size⟩
  · obtain ⟨j1, j2, j3, j4⟩ := h.keep p hp
    exact ⟨(hw.block p.1 (lt_of_obj j1) (by simp)).trans j1, j2, j3, j4⟩
theorem Bx.drop {K' : List (Nat × Obj)} (h : Bx w0 w B N0 r K xs s) (hk : ∀ p ∈ K', p ∈ K) : Bx w0 w B N0 r K' xs s := by
  obtain ⟨g, N, C, H, h⟩ := h
  exact ⟨g, N, C, H, h.bd, h.nn, h.room, h.bel, h.hB, h.hg, fun p hp => h.keep p (hk p hp)⟩
theorem Bx.less {r' : Nat} (h : Bx w0 w B N0 r K xs s) (hr : r' ≤ r) : Bx w0 w B N0 r' K xs s := by
  obtain ⟨g, N, C, H, h⟩ := h
  exact ⟨g, N, C, H, h.less hr⟩
theorem Bx.bel (h : Bx w0 w B N0 r K xs s) : Below w0.heap.size w0 w := by
  obtain ⟨g, N, C, H, h⟩ := h; exact h.bel
theorem Bx.notNested (h : Bx w0 w B N0 r K xs s) (hs : s.ne = false) : Calls Tryz.prog 94 #[.pointer (some ⟨B, 0, none⟩)] w fun e w' => e = .returned (.tuple #[]) ∧ w = w' := by
  obtain ⟨g, N, C, H, h⟩ := h; exact Msg.notNested w B g N C H xs s h.bd hs
theorem Bx.nested (h : Bx w0 w B N0 r K xs s) (hs : s.ne = true) : Calls Tryz.prog 97 #[.pointer (some ⟨B, 0, none⟩)] w fun e w' => e = .returned (.tuple #[]) ∧ w = w' := by
  obtain ⟨g, N, C, H, h⟩ := h; exact Msg.nested w B g N C H xs s h.bd hs

set_option maxRecDepth 100000 in
theorem slot (w0 w : World) (B N0 r V n o L : Nat) (K : List (Nat × Obj)) (vs xs : List Nat) (s : St) (h : Bx w0 w B N0 r ((V, UO vs) :: K) xs s) (hV : ∀ p ∈ K, p.1 ≠ V) (hvt : s.vt = .slice (some ⟨V, 0, none⟩) n n) (hn : vs.length = n) (ho : o < n) (hL : L = xs.length) :
    Calls Tryz.prog 101 #[.pointer (some ⟨B, 0, none⟩), .int .i64 (o : Int)] w fun e w' => e = .returned (.tuple #[]) ∧ Bx w0 w' B N0 r ((V, UO (vs.set o L)) :: K) xs s := by
  obtain ⟨_, c2, _⟩ := h.cell
  rw [hvt] at c2
  have hk := (h.keep _ (List.mem_cons_self ..)).1
  have cv : ∀ m, (w.drewN m).cell? ⟨V, o, none⟩ = some (.int .u32 ((vs.getD o 0 : Nat) : Int)) := fun m => by
    have : (w.drewN m).heap[V]? = some (UO vs) := hk
    simp only [World.cell?, this, UO]
    simpa using us_get (show o < vs.length by omega)
  have fv : ∀ m, (w.drewN m).frozen? ⟨V, o, none⟩ = false := fun m => by
    have : (w.drewN m).heap[V]? = some (UO vs) := hk
    simp only [World.frozen?, this, UO]; simp
  have HH := Lib.hid h
  have HV := Lib.hid hV
  have HL := Lib.hid hL
  have HE := Lib.hid (us_set vs o L)
  clear h hV hL hn hk hvt
  go_enter Tryz.func101, Tryz.ntmps101
  go_wp2_with fail
  refine region_quiet_tail 8 (C := fun w' => ∃ m, w' = w.drewN m) (by kernel_rfl) (by kernel_rfl) ⟨1, rfl⟩ ?_
  simp only [List.take_succ_cons, List.take_zero, List.drop_succ_cons, List.drop_zero]
  iterate 8 go_big_quiet_step ((go_at_call 95; exact quiet_off ((HH.out.drewN _).offset L HL.out)))
  refine wpQuiet_nil ?_
  rintro _ ⟨m, rfl⟩
  go_wp2_with fail
  go_end0
  have := (HH.out.drewN m).setK (i := o) (v := .int .u32 (L : Int)) HV.out
  rw [HE.out] at this
  exact ⟨rfl, this⟩
end
end Go.Proofs.YtegohkgmamnkdaaGreat.Msg
/- A builder of messages: fields of an object, a vector's start and end, walked. Condition: it grows once at most. -/
set_option linter.unusedVariables false
namespace Go.Proofs.YtegohkgmamnkdaaGreat.Msg
open Go.ChangeShapes Go.WideShapes Go.ChangeAt Go.RowKit
open Go.Proofs.YtegohkgmamnkdaaGreat.Dig Go.Proofs.YtegohkgmamnkdaaGreat.Mem Go.Proofs.YtegohkgmamnkdaaGreat.Rb

set_option maxRecDepth 100000 in
theorem uoSlot (w0 w : World) (B N0 r V n o P off D : Nat) (K : List (Nat × Obj)) (vs xs ys : List Nat) (s : St) (h : Bx w0 w B N0 r ((V, UO vs) :: K) xs s) (hf : Fine N0 s) (hV : ∀ p ∈ K, p.1 ≠ V) (hvt : s.vt = .slice (some ⟨V, 0, none⟩) n n) (hn : vs.length = n) (ho : o < n)
    (hP : P = padOf 4 xs.length) (hfit : xs.length + P + 4 < N0 * 2) (hoff : off ≤ xs.length) (h0 : 0 < off) (hD : D = xs.length + P - off + 4) (hys : ys = le 4 D ++ (List.replicate P 0 ++ xs)) (O : Int) (hO : O = (o : Int)) :
    Calls Tryz.prog 75 #[.pointer (some ⟨B, 0, none⟩), .int .i64 O, .int .u32 (off : Int), .int .u32 0] w fun e w' => e = .returned (.tuple #[]) ∧ Bx w0 w' B N0 0 ((V, UO (vs.set o ys.length)) :: K) ys { s with ma := mx s.ma 4 } := by
  subst hO
  have K1 := Lib.hid (prependUO w0 w B N0 r P off D _ xs s h hf hP hfit hoff hD)
  rw [← hys] at K1
  have hx : ((off : Int) == 0) = false := by simp; omega
  have HV := Lib.hid hV
  have HT := Lib.hid hvt
  have HN := Lib.hid hn
  clear h hf hP hfit hys hV hvt hn
  go_enter Tryz.func75, Tryz.ntmps75
  go_wp2_with (first
    | (go_at_call 100; (with_reducible refine K1.out.mono ?_); rintro e w1 ⟨rfl, h1⟩; have H1 := Lib.hid h1; clear h1)
    | (go_at_call 101; (with_reducible refine (slot w0 w1 B N0 0 V n o ys.length K vs ys _ H1.out HV.out HT.out HN.out ho rfl).mono ?_); rintro e w2 ⟨rfl, h2⟩; have H2 := Lib.hid h2; clear h2))
  go_end0
  exact ⟨rfl, H2.out⟩

set_option maxRecDepth 100000 in
theorem u64Slot (w0 w : World) (B N0 r V n o P v : Nat) (K : List (Nat × Obj)) (vs xs ys : List Nat) (s : St) (h : Bx w0 w B N0 r ((V, UO vs) :: K) xs s) (hf : Fine N0 s) (hV : ∀ p ∈ K, p.1 ≠ V) (hvt : s.vt = .slice (some ⟨V, 0, none⟩) n n) (hn : vs.length = n) (ho : o < n)
    (hP : P = padOf 8 xs.length) (hfit : xs.length + P + 8 < N0 * 2) (hv : v < 18446744073709551616) (h0 : 0 < v) (hys : ys = le 8 v ++ (List.replicate P 0 ++ xs)) (O : Int) (hO : O = (o : Int)) :
    Calls Tryz.prog 76 #[.pointer (some ⟨B, 0, none⟩), .int .i64 O, .int .u64 (v : Int), .int .u64 0] w fun e w' => e = .returned (.tuple #[]) ∧ Bx w0 w' B N0 0 ((V, UO (vs.set o ys.length)) :: K) ys { s with ma := mx s.ma 8 } := by
  subst hO
  have K1 := Lib.hid (prependU64 w0 w B N0 r 0 P v _ xs s h hf hP hfit hv (Or.inl rfl))
  rw [← hys] at K1
  have hx : ((v : Int) == 0) = false := by simp; omega
  have HV := Lib.hid hV
  have HT := Lib.hid hvt
  have HN := Lib.hid hn
  clear h hf hP hfit hys hV hvt hn
  go_enter Tryz.func76, Tryz.ntmps76
  go_wp2_with (first
    | (go_at_call 102; (with_reducible refine K1.out.mono ?_); rintro e w1 ⟨rfl, h1⟩; have H1 := Lib.hid h1; clear h1)
    | (go_at_call 101; (with_reducible refine (slot w0 w1 B N0 0 V n o ys.length K vs ys _ H1.out HV.out HT.out HN.out ho rfl).mono ?_); rintro e w2 ⟨rfl, h2⟩; have H2 := Lib.hid h2; clear h2))
  go_end0
  exact ⟨rfl, H2.out⟩

set_option maxRecDepth 100000 in
theorem byteSlot (w0 w : World) (B N0 r V n o P v : Nat) (K : List (Nat × Obj)) (vs xs ys : List Nat) (s : St) (h : Bx w0 w B N0 r ((V, UO vs) :: K) xs s) (hf : Fine N0 s) (hV : ∀ p ∈ K, p.1 ≠ V) (hvt : s.vt = .slice (some ⟨V, 0, none⟩) n n) (hn : vs.length = n) (ho : o < n)
    (hP : P = padOf 1 xs.length) (hfit : xs.length + P + 1 < N0 * 2) (hv : v < 256) (h0 : 0 < v) (hys : ys = le 1 v ++ (List.replicate P 0 ++ xs)) (O : Int) (hO : O = (o : Int)) :
    Calls Tryz.prog 77 #[.pointer (some ⟨B, 0, none⟩), .int .i64 O, .int .u8 (v : Int), .int .u8 0] w fun e w' => e = .returned (.tuple #[]) ∧ Bx w0 w' B N0 0 ((V, UO (vs.set o ys.length)) :: K) ys { s with ma := mx s.ma 1 } := by
  subst hO
  have K1 := Lib.hid (prependByte w0 w B N0 r 0 P v _ xs s h hf hP hfit hv (Or.inl rfl))
  rw [← hys] at K1
  have hx : ((v : Int) == 0) = false := by simp; omega
  have HV := Lib.hid hV
  have HT := Lib.hid hvt
  have HN := Lib.hid hn
  clear h hf hP hfit hys hV hvt hn
  go_enter Tryz.func77, Tryz.ntmps77
  go_wp2_with (first
    | (go_at_call 103; (with_reducible refine K1.out.mono ?_); rintro e w1 ⟨rfl, h1⟩; have H1 := Lib.hid h1; clear h1)
    | (go_at_call 101; (with_reducible refine (slot w0 w1 B N0 0 V n o ys.length K vs ys _ H1.out HV.out HT.out HN.out ho rfl).mono ?_); rintro e w2 ⟨rfl, h2⟩; have H2 := Lib.hid h2; clear h2))
  go_end0
  exact ⟨rfl, H2.out⟩

theorem u64Slot0 (w : World) (B : Nat) (O : Int) :
    Calls Tryz.prog 76 #[.pointer (some ⟨B, 0, none⟩), .int .i64 O, .int .u64 0, .int .u64 0] w fun e w' => e = .returned (.tuple #[]) ∧ w = w' := by
  go_enter Tryz.func76, Tryz.ntmps76
  go_wp2
  go_end0
  exact ⟨rfl, rfl⟩

theorem byteSlot0 (w : World) (B : Nat) (O : Int) :
    Calls Tryz.prog 77 #[.pointer (some ⟨B, 0, none⟩), .int .i64 O, .int .u8 0, .int .u8 0] w fun e w' => e = .returned (.tuple #[]) ∧ w = w' := by
  go_enter Tryz.func77, Tryz.ntmps77
  go_wp2
  go_end0
  exact ⟨rfl, rfl⟩

section
variable {w0 w : World} {B N0 r : Nat} {K : List (Nat × Obj)} {xs : List Nat} {s : St}
theorem bx_st {s' : St} (h : Bx w0 w B N0 r K xs s) (e : s = s') : Bx w0 w B N0 r K xs s' := e ▸ h

set_option maxRecDepth 100000 in
theorem endVector (w0 w : World) (B N0 r n L : Nat) (K : List (Nat × Obj)) (xs : List Nat) (s : St) (h : Bx w0 w B N0 (r + 4) K xs s) (hs : s.ne = true) (hn : n ≤ 1000000) (hL : L = xs.length + 4) (hN : N0 ≤ 100000) :
    Calls Tryz.prog 71 #[.pointer (some ⟨B, 0, none⟩), .int .i64 (n : Int)] w fun e w' => e = .returned (.int .u32 (L : Int)) ∧ Bx w0 w' B N0 r K (le 4 n ++ xs) { s with ne := false } := by
  have K1 := Lib.hid (h.nested hs)
  have K2 := Lib.hid (h.placeUO n (by omega))
  have HL := Lib.hid (show L = (le 4 n ++ xs).length by rw [List.length_append, le_length, hL]; omega)
  have bL : L ≤ 200000 := by have := h.top; omega
  clear h hs hL
  go_enter Tryz.func71, Tryz.ntmps71
  go_wp2_with (first
    | (go_at_call 97; (with_reducible refine K1.out.mono ?_); rintro e w1 ⟨rfl, rfl⟩)
    | (go_at_call 98; (with_reducible refine K2.out.mono ?_); rintro e w1 ⟨rfl, h1⟩; have H1 := Lib.hid h1; have c6 := h1.cell.2.2.2.2.1; have f6 := h1.cell.2.2.2.2.2.2 6; clear h1)
    | (go_at_call 95; (with_reducible refine ((Bx.set H1.out 6 (.bool false) { s with ne := false } (fun _ _ _ _ => rfl)).offset L HL.out).mono ?_); rintro e w2 ⟨rfl, m1, rfl⟩))
  go_ret
  exact ⟨rfl, (Bx.set H1.out 6 (.bool false) { s with ne := false } (fun _ _ _ _ => rfl)).drewN m1⟩

set_option maxRecDepth 100000 in
/-- A vector of n numbers of two bytes begins. -/
theorem startVector (w0 w : World) (B N0 r n n2 P : Nat) (K : List (Nat × Obj)) (xs : List Nat) (s : St) (h : Bx w0 w B N0 r K xs s) (hf : Fine N0 s) (hs : s.ne = false) (hn : n ≤ 1000) (hn2 : n2 = 2 * n) (hP : P = padOf 4 (xs.length + n2)) (hfit : xs.length + P + 4 + n2 < N0 * 2) (hma : 4 ≤ s.ma) :
    Calls Tryz.prog 69 #[.pointer (some ⟨B, 0, none⟩), .int .i64 2, .int .i64 (n : Int), .int .i64 2] w fun e w' => (∃ v, e = .returned (.int .u32 v)) ∧ Bx w0 w' B N0 (n2 + 4) K (List.replicate P 0 ++ xs) { s with ne := true } := by
  have K1 := Lib.hid (h.notNested hs)
  obtain ⟨_, _, _, _, c6, _, f6⟩ := h.cell
  have f6 := f6 6
  have e2 : (2 : Int) * (n : Int) = (n2 : Int) := by omega
  have hf2 : Fine N0 { s with ne := true } := hf
  have h2 := h.set 6 (.bool true) { s with ne := true } (fun _ _ _ _ => rfl)
  have K2 := Lib.hid (prepI w0 _ B N0 r (n2 + 4) 4 n2 P K xs { s with ne := true } h2 hf2 (by decide) (by omega) hP hfit (by omega) 4 n2 rfl rfl)
  have em : ({ s with ne := true, ma := mx s.ma 4 } : St) = { s with ne := true } := by
    have : mx s.ma 4 = s.ma := by unfold mx; rw [if_neg (by omega)]
    rw [this]
  have em2 : mx s.ma 2 = s.ma := by unfold mx; rw [if_neg (by omega)]
  have hP0 : padOf 2 ((List.replicate P 0 ++ xs).length + n2) = 0 := by
    rw [List.length_append, List.length_replicate, hP]; unfold padOf; omega
  have K3 := Lib.hid (fun w1 (h3 : Bx w0 w1 B N0 (n2 + 4) K (List.replicate P 0 ++ xs) { s with ne := true }) =>
    prepI w0 w1 B N0 (n2 + 4) (n2 + 4) 2 n2 0 K (List.replicate P 0 ++ xs) { s with ne := true } h3 hf2 (by decide) (by omega) hP0.symm (by rw [List.length_append, List.length_replicate]; omega) (by omega) 2 n2 rfl rfl)
  have K4 := Lib.hid (fun w1 (h3 : Bx w0 w1 B N0 (n2 + 4) K (List.replicate P 0 ++ xs) { s with ne := true }) => h3.offset _ rfl)
  have EM := Lib.hid em
  have EM2 := Lib.hid em2
  have bn : n2 ≤ 2000 := by omega
  clear h hf hs hn2 hP hfit hf2 h2 em em2 hP0
  go_enter Tryz.func69, Tryz.ntmps69
  go_wp2_with (first
    | (go_at_call 94; (with_reducible refine K1.out.mono ?_); rintro e w1 ⟨rfl, rfl⟩)
    | (go_at_call 66; (with_reducible refine K2.out.mono ?_); rintro e w1 ⟨rfl, h1⟩; have H1 := Lib.hid (bx_st h1 EM.out); clear h1)
    | (go_at_call 66; (with_reducible refine (K3.out _ H1.out).mono ?_); rintro e w2 ⟨rfl, h2⟩; have H2 := Lib.hid h2; simp only [EM2.out, List.replicate_zero, List.nil_append] at H2; clear h2)
    | (go_at_call 95; (with_reducible refine (K4.out _ H2.out).mono ?_); rintro e w3 ⟨rfl, m1, rfl⟩))
  go_ret
  exact ⟨⟨_, rfl⟩, H2.out.drewN m1⟩
end
end Go.Proofs.YtegohkgmamnkdaaGreat.Msg
/- A builder of messages: a vector of bytes, walked. Condition: it grows once at most. -/
set_option linter.unusedVariables false
namespace Go.Proofs.YtegohkgmamnkdaaGreat.Msg
open Go.ChangeShapes Go.WideShapes Go.ChangeAt Go.RowKit
open Go.Proofs.YtegohkgmamnkdaaGreat.Dig Go.Proofs.YtegohkgmamnkdaaGreat.Mem Go.Proofs.YtegohkgmamnkdaaGreat.Rb

theorem rb_wr {w w' : World} {S : List Nat} {a : Option Addr} {n c : Nat} {xs : List Nat} (h : RB w a n c xs) (hb : Wr S w w') (hg : ∀ b o, a = some ⟨b, o, none⟩ → b ∉ S) : RB w' a n c xs :=
  ⟨h.len, h.le, h.top, h.byte, fun hn => by
    obtain ⟨b, o, e, hc⟩ := h.at_ hn
    refine ⟨b, o, e, fun i hi => ?_⟩
    have h1 := hc i hi
    rw [← h1]
    have e1 := hb.block b (lt_of_cell h1) (hg b o e)
    simp only [World.cell?, e1]⟩
theorem cutLH {k k' : IntKind} (a : Option Addr) (N C lo hi n : Nat) (h : lo ≤ hi) (h2 : hi ≤ C) (hn : hi - lo = n) : ∀ w, (Instr.slice 26 (.slice a N C) (some (.int k (lo : Int))) (some (.int k' (hi : Int))) none).run Tryz.prog w = .ok (.slice (cutA a C lo) n (C - lo)) w := fun w => by
  subst hn
  exact cutA_run (by rw [el26]; exact Tryz.underlying26) (by rw [el26]; exact u8size w) a N C k k' lo hi h h2

set_option maxRecDepth 100000 in
set_option maxHeartbeats 1000000 in
theorem createBV (w0 w : World) (B N0 r n c L : Nat) (sp : Option Addr) (K : List (Nat × Obj)) (xs xs2 ys : List Nat) (s s2 : St) (h : Bx w0 w B N0 r K xs s) (hs : s.ne = false) (hs2 : s2.ne = true) (hN : N0 ≤ 100000)
    (hp : Calls Tryz.prog 66 #[.pointer (some ⟨B, 0, none⟩), .int .i64 4, .int .i64 (n : Int)] (w.setCell ⟨B, 6, none⟩ (.bool true)) fun e w' => e = .returned (.tuple #[]) ∧ Bx w0 w' B N0 (n + 4) K xs2 s2 ∧ RB w' sp n c ys)
    (hsp : ∀ b o, sp = some ⟨b, o, none⟩ → b ≠ B) (hL : L = xs2.length + n + 4) (hnb : n ≤ 100000) (hyb : ∀ y ∈ ys, y < 256) :
    Calls Tryz.prog 68 #[.pointer (some ⟨B, 0, none⟩), .slice sp n c] w fun e w' => e = .returned (.int .u32 (L : Int)) ∧ Bx w0 w' B N0 0 K (le 4 n ++ (ys ++ xs2)) { s2 with ne := false } := by
  have K1 := Lib.hid (h.notNested hs)
  have K2 := Lib.hid hp
  obtain ⟨_, _, _, _, c6, _, f6⟩ := h.cell
  have f6 := f6 6
  have HSP := Lib.hid hsp
  have HL := Lib.hid hL
  have HS2 := Lib.hid hs2
  have HY := Lib.hid hyb
  clear h hs hs2 hp hsp hL hyb
  go_enter Tryz.func68, Tryz.ntmps68
  go_wp2_with (first
    | (go_at_call 94; (with_reducible refine K1.out.mono ?_); rintro e w1 ⟨rfl, rfl⟩)
    | (go_at_call 66; (with_reducible refine K2.out.mono ?_); rintro e w1 ⟨rfl, h1, h2⟩; obtain ⟨g, N, C, H, hx⟩ := h1; have c5 : w1.cell? ⟨B, 5, none⟩ = some (.int .u32 (H : Int)) := hx.bd.cell 5; have f5 := hx.bd.free 5; have hroom := hx.room; have hlen := hx.bd.len; obtain ⟨H2, hH2⟩ : ∃ H2, H2 = H - n := ⟨_, rfl⟩; have bH : H ≤ 200000 := (by have := hx.nn; omega); have s1 : (H : Int) - (n : Int) = (H2 : Int) := (by omega); have e2 : (H2 : Int) + (n : Int) = (H : Int) := (by omega); have EH := Lib.hid hH2; clear hH2; have hnH : n ≤ H := (by omega); have HX := Lib.hid hx; have HRB := Lib.hid h2; clear hx h2))
  obtain ⟨Z, hz⟩ := HX.out.bd
  obtain ⟨r5, b5⟩ := hz.set 5 (.int .u32 (H2 : Int)) g N C H2 s2 rfl
  have w5 : Wr [B] w1 (w1.setCell ⟨B, 5, none⟩ (.int .u32 (H2 : Int))) := Wr.setCell _ _ (by simp)
  have rb5 : RB (w1.setCell ⟨B, 5, none⟩ (.int .u32 (H2 : Int))) sp n c ys := rb_wr (S := [B]) HRB.out (Wr.setCell _ _ (by simp)) (fun b o e => by simpa using HSP.out b o e)
  generalize w1.setCell ⟨B, 5, none⟩ (.int .u32 (H2 : Int)) = W5 at *
  have d5 : W5.cell? ⟨B, 5, none⟩ = some (.int .u32 (H2 : Int)) := by simp only [World.cell?, r5]; rfl
  have d0 : W5.cell? ⟨B, 0, none⟩ = some (.slice (some ⟨g, 0, none⟩) N C) := by simp only [World.cell?, r5]; rfl
  have C1 := cutLH (k := .u32) (k' := .u32) (some ⟨g, 0, none⟩) N C H2 H n (by have := EH.out; omega) (by omega) (by have := EH.out; omega)
  have R5 := Lib.hid r5
  have B5 := Lib.hid b5
  have W5' := Lib.hid w5
  have RB5 := Lib.hid rb5
  have HZ := Lib.hid hz
  have b2 : H2 ≤ 200000 := by have := EH.out; omega
  have HLEN := Lib.hid hlen
  clear r5 b5 w5 rb5 hz hlen hnH
  refine region_quiet_tail 16 (C := fun w' => ∃ m, w' = W5.drewN m) (by kernel_rfl) (by kernel_rfl) ⟨1, rfl⟩ ?_
  simp only [List.take_succ_cons, List.take_zero, List.drop_succ_cons, List.drop_zero]
  iterate 16 go_big_quiet_step (fail)
  refine wpQuiet_nil ?_
  rintro _ ⟨m, rfl⟩
  have B6 := Lib.hid (B5.out.later (S := []) ((Wr.refl _ _).drewN m) (by simp))
  have RB6 := Lib.hid (rb_wr (S := []) RB5.out ((Wr.refl _ _).drewN m) (by simp))
  refine copy_blk B6 rfl (.tmp 41) (.tmp 42) 26 26 rfl 5 Tryz.underlying26 size5 (cutA (some ⟨g, 0, none⟩) C H2) n (C - H2) rfl sp n c rfl RB6 n (Nat.min_self n).symm (off := H2) (fun h0 => ?_) ?_ ?_
  · have := HLEN.out; have := EH.out
    unfold cutA
    rw [if_neg (by omega)]
    simp only [Option.map_some, Addr.add]
    by_cases h0 : H2 = 0
    · simp [h0]
    · simp [h0]
  · have h1 := HZ.out.hZ
    rw [List.length_append, h1, EH.out]; omega
  · intro w6 H6 W6
    have hyl := RB6.out.len
    have h6 := H6.out
    rw [List.take_of_length_le (by omega)] at h6
    obtain ⟨hbd, hwr⟩ := placed (w := w1) (W2 := W5) (m := m) (H := H2) (ys := ys) HZ.out (by rw [hyl, EH.out]; omega) HY.out R5.out W5'.out h6 W6.out
    have X6 : Bx w0 w6 B N0 (0 + 4) K (ys ++ xs2) s2 := ⟨g, N, C, H2, HX.out.step hbd hwr (by have := EH.out; omega)⟩
    have K7 := Lib.hid (endVector w0 w6 B N0 0 n L K (ys ++ xs2) s2 X6 HS2.out (by omega) (by rw [List.length_append, hyl, HL.out]; omega) hN)
    clear h6 hbd hwr X6 hyl
    go_wp2_with (go_at_call 71; (with_reducible refine K7.out.mono ?_); rintro e w7 ⟨rfl, h7⟩; have H7 := Lib.hid h7; clear h7)
    go_ret
    exact ⟨rfl, H7.out⟩
end Go.Proofs.YtegohkgmamnkdaaGreat.Msg
/- Rows of bytes that came in. No condition. -/
set_option linter.unusedVariables false
namespace Go.Proofs.YtegohkgmamnkdaaGreat.Msg
open Go.ChangeShapes Go.WideShapes Go.ChangeAt Go.RowKit
open Go.Proofs.YtegohkgmamnkdaaGreat.Dig Go.Proofs.YtegohkgmamnkdaaGreat.Mem Go.Proofs.YtegohkgmamnkdaaGreat.Rb

/-- A row: where it lies and what it holds. -/
structure Fld where
  a : Option Addr
  n : Nat
  c : Nat
  xs : List Nat
def Fld.v (f : Fld) : Value := .slice f.a f.n f.c
instance : Inhabited Fld := ⟨⟨none, 0, 0, []⟩⟩
def nof : Fld := ⟨none, 0, 0, []⟩
def FldOk (w : World) (f : Fld) : Prop := RB w f.a f.n f.c f.xs ∧ (f.a = none → f.c = 0)
/-- A slice of rows. -/
structure Flds (w : World) (a : Option Addr) (n c : Nat) (fs : List Fld) : Prop where
  len : fs.length = n
  le : n ≤ c
  top : c ≤ maxLen
  ok : ∀ f ∈ fs, FldOk w f
  at_ : 0 < n → ∃ b o, a = some ⟨b, o, none⟩ ∧ b < w.heap.size ∧ ∀ i, i < n → w.cell? ⟨b, o + i, none⟩ = some (fs.getD i nof).v
theorem Flds.below {w w' : World} {a : Option Addr} {n c : Nat} {fs : List Fld} (h : Flds w a n c fs) (hb : Below w.heap.size w w') : Flds w' a n c fs :=
  ⟨h.len, h.le, h.top, fun f hf => ⟨(h.ok f hf).1.below hb (Nat.le_refl _), (h.ok f hf).2⟩, fun hn => by
    obtain ⟨b, o, e, hlt, hc⟩ := h.at_ hn
    exact ⟨b, o, e, Nat.lt_of_lt_of_le hlt hb.size, fun i hi => (hb.cell (p := ⟨b, o + i, none⟩) hlt).trans (hc i hi)⟩⟩
theorem getD_mem {fs : List Fld} {i : Nat} (h : i < fs.length) : fs.getD i nof ∈ fs := by
  rw [List.getD_eq_getElem?_getD, List.getElem?_eq_getElem h]; exact List.getElem_mem h
/-- The bytes of all, one behind another; how many. -/
def cat : List Fld → List Nat
  | [] => []
  | f :: fs => f.xs ++ cat fs
def total : List Fld → Nat
  | [] => 0
  | f :: fs => f.n + total fs
theorem cat_append : ∀ fs gs, cat (fs ++ gs) = cat fs ++ cat gs
  | [], gs => rfl
  | f :: fs, gs => by simp [cat, cat_append fs gs]
theorem total_append : ∀ fs gs, total (fs ++ gs) = total fs + total gs
  | [], gs => by simp [total]
  | f :: fs, gs => by simp [total, total_append fs gs, Nat.add_assoc]
theorem take_more {fs : List Fld} {k : Nat} (h : k < fs.length) : fs.take (k + 1) = fs.take k ++ [fs.getD k nof] := by
  rw [List.take_succ_eq_append_getElem h, List.getD_eq_getElem?_getD, List.getElem?_eq_getElem h]; rfl
theorem total_le {B : Nat} : ∀ {fs : List Fld}, (∀ f ∈ fs, f.n ≤ B) → total fs ≤ B * fs.length
  | [], _ => by simp [total]
  | f :: fs, h => by
    have h1 := h f (List.mem_cons_self ..)
    have h2 := total_le (fs := fs) fun x hx => h x (List.mem_cons_of_mem _ hx)
    simp only [total, List.length_cons, Nat.mul_add, Nat.mul_one]; omega
theorem cat_length {w : World} : ∀ {fs : List Fld}, (∀ f ∈ fs, FldOk w f) → (cat fs).length = total fs
  | [], _ => rfl
  | f :: fs, h => by
    have h1 := (h f (List.mem_cons_self ..)).1.len
    have h2 := cat_length (fs := fs) fun x hx => h x (List.mem_cons_of_mem _ hx)
    simp only [cat, total, List.length_append, h1, h2]
theorem cat_byte {w : World} : ∀ {fs : List Fld}, (∀ f ∈ fs, FldOk w f) → ∀ x ∈ cat fs, x < 256
  | [], _, x, hx => by simp [cat] at hx
  | f :: fs, h, x, hx => by
    rcases List.mem_append.1 hx with hx | hx
    · exact (h f (List.mem_cons_self ..)).1.byte x hx
    · exact cat_byte (fs := fs) (fun y hy => h y (List.mem_cons_of_mem _ hy)) x hx
theorem total_take_le (fs : List Fld) (k : Nat) : total (fs.take k) ≤ total fs := by
  have := total_append (fs.take k) (fs.drop k)
  rw [List.take_append_drop] at this
  omega
theorem total_next {fs : List Fld} {k : Nat} (h : k < fs.length) : total (fs.take k) + (fs.getD k nof).n ≤ total fs := by
  have h1 := total_take_le fs (k + 1)
  rw [take_more h, total_append] at h1
  simpa [total] using h1
end Go.Proofs.YtegohkgmamnkdaaGreat.Msg
/- The bytes of rows written as one vector, walked. Condition: the builder grows once at most. -/
set_option linter.unusedVariables false
namespace Go.Proofs.YtegohkgmamnkdaaGreat.Msg
open Go.ChangeShapes Go.WideShapes Go.ChangeAt Go.RowKit
open Go.Proofs.YtegohkgmamnkdaaGreat.Dig Go.Proofs.YtegohkgmamnkdaaGreat.Mem Go.Proofs.YtegohkgmamnkdaaGreat.Rb

theorem pad0 (w : World) (B : Nat) :
    Calls Tryz.prog 93 #[.pointer (some ⟨B, 0, none⟩), .int .i64 0] w fun e w' => e = .returned (.tuple #[]) ∧ w = w' := by
  go_enter Tryz.func93, Tryz.ntmps93
  go_wp2_with fail
  go_loopw [4] (fun iv wr => iv = .int .i64 0 ∧ w = wr) (fun _ _ => 0)
  case atStart => exact ⟨rfl, rfl⟩
  case round =>
    obtain ⟨rfl, rfl⟩ := hrel
    go_wp2_with fail
    go_end0
    exact ⟨rfl, rfl⟩
set_option maxRecDepth 100000 in
set_option maxHeartbeats 1000000 in
/-- Nothing to make ready: nothing turns. -/
theorem prepNoop (w : World) (B g N C H ad : Nat) (xs : List Nat) (s : St) (h : Bd w B g N C H xs s) (hN : N ≤ 200000) (had : ad ≤ 100000) (hma : 4 ≤ s.ma) (hP : padOf 4 (xs.length + ad) = 0) (hH : 4 + ad < H) :
    Calls Tryz.prog 66 #[.pointer (some ⟨B, 0, none⟩), .int .i64 4, .int .i64 (ad : Int)] w fun e w' => e = .returned (.tuple #[]) ∧ ∃ m, w' = w.drewN m := by
  have hl := h.len
  have c1 : w.cell? ⟨B, 1, none⟩ = some (.int .i64 (s.ma : Int)) := h.cell 1
  have c5 : w.cell? ⟨B, 5, none⟩ = some (.int .u32 (H : Int)) := h.cell 5
  have c0 : w.cell? ⟨B, 0, none⟩ = some (.slice (some ⟨g, 0, none⟩) N C) := h.cell 0
  obtain ⟨L, hL⟩ : ∃ L, L = xs.length := ⟨_, rfl⟩
  have s1 : (N : Int) - (H : Int) = (L : Int) := by omega
  obtain ⟨X, hX⟩ : ∃ X, X = L + ad := ⟨_, rfl⟩
  have s2 : (L : Int) + (ad : Int) = (X : Int) := by omega
  have hX1 : X ≤ 10000000 := by omega
  have s3 : bits .xor .i64 (-1) (X : Int) = -1 - (X : Int) := i64_not X (by omega)
  have s4 : bits .and .i64 (-(X : Int)) 3 = 0 := by
    have := and_pad X 4 hX1 (by decide) 3 rfl
    rw [show padOf 4 X = 0 by rw [hX, hL]; exact hP] at this
    exact this
  have s5 : (-1 - (X : Int)) + 1 = -(X : Int) := by omega
  have s6 : Go.RowKit.wrap64 (-(X : Int)) = -(X : Int) := by unfold Go.RowKit.wrap64; omega
  have hma' : ¬ (s.ma : Int) < 4 := by omega
  have hlt : ¬ (H : Int) ≤ 4 + (ad : Int) := by omega
  have hlt2 : ¬ (H : Int) ≤ 0 + 4 + (ad : Int) := by omega
  have bH : H ≤ 200000 := by omega
  have HB := Lib.hid h
  clear h hl hL hX hP hma hH
  go_enter Tryz.func66, Tryz.ntmps66
  go_wp2_with fail
  go_quiet ((go_at_call 67; exact quiet_left (head _ B g N C H xs s (HB.out.drewN _))))
  go_wp2_with fail
  go_loopw [7] (fun _ wr => wr = w.drewN nq) (fun _ _ => 0)
  case atStart => exact rfl
  case round =>
    obtain rfl := hrel
    have d5 : (w.drewN nq).cell? ⟨B, 5, none⟩ = some (.int .u32 (H : Int)) := c5
    go_wp2_with (go_at_call 93; (with_reducible refine (pad0 _ B).mono ?_); rintro e w3 ⟨rfl, rfl⟩)
    go_end0
    exact ⟨rfl, _, rfl⟩
end Go.Proofs.YtegohkgmamnkdaaGreat.Msg
