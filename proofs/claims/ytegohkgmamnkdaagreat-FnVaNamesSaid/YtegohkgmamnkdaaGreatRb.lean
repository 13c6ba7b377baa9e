/- Words for slices of bytes: a slice value that reads as a list of bytes, whatever its address; what the walk does with such. No condition. -/
import Derived.Test.YtegohkgmamnkdaaGreatCmp
import Derived.Deep.AppendLies
import Derived.Maps.AppendAt
import Derived.Defers
import Derived.Recover
import Derived.Laws.Pointers
set_option linter.unusedVariables false
namespace Go.Proofs.YtegohkgmamnkdaaGreat.Rb
open Go.ChangeShapes Go.WideShapes Go.ChangeAt Go.RowKit
open Go.Proofs.YtegohkgmamnkdaaGreat.Dig Go.Proofs.YtegohkgmamnkdaaGreat.Mem

/-- Bytes as values; as a text. -/
def bs (xs : List Nat) : List Value := xs.map fun (x : Nat) => Value.int .u8 (x : Int)
def txt (xs : List Nat) : ByteArray := ⟨(u8s xs).toArray⟩
theorem bs_length (xs : List Nat) : (bs xs).length = xs.length := by simp [bs]
theorem bs_append (xs ys : List Nat) : bs (xs ++ ys) = bs xs ++ bs ys := by simp [bs]
theorem bs_get {xs : List Nat} {i : Nat} (h : i < xs.length) : (bs xs)[i]? = some (.int .u8 ((xs.getD i 0 : Nat) : Int)) := by
  simp [bs, List.getElem?_eq_getElem h]
theorem txt_size (xs : List Nat) : (txt xs).size = xs.length := by simp [txt, ByteArray.size, u8s]
theorem txt_toList (xs : List Nat) : (txt xs).toList = u8s xs := by
  rw [ByteArray.toList_eq]; rfl
theorem u8s_inj : ∀ {xs ys : List Nat}, (∀ x ∈ xs, x < 256) → (∀ y ∈ ys, y < 256) → u8s xs = u8s ys → xs = ys
  | [], [], _, _, _ => rfl
  | [], _ :: _, _, _, h => by simp [u8s] at h
  | _ :: _, [], _, _, h => by simp [u8s] at h
  | a :: x, b :: y, hx, hy, h => by
    simp only [u8s, List.map_cons, List.cons.injEq] at h
    have h1 := congrArg UInt8.toNat h.1
    rw [UInt8.toNat_ofNat', UInt8.toNat_ofNat', Nat.mod_eq_of_lt (hx a (List.mem_cons_self ..)), Nat.mod_eq_of_lt (hy b (List.mem_cons_self ..))] at h1
    rw [h1, u8s_inj (fun d hd => hx d (List.mem_cons_of_mem _ hd)) (fun d hd => hy d (List.mem_cons_of_mem _ hd)) h.2]
theorem txt_eq {xs ys : List Nat} (hx : ∀ x ∈ xs, x < 256) (hy : ∀ y ∈ ys, y < 256) : ((txt xs).toList == (txt ys).toList) = (xs == ys) := by
  rw [txt_toList, txt_toList, Bool.eq_iff_iff]
  simp only [beq_iff_eq]
  exact ⟨fun h => u8s_inj hx hy h, fun h => by rw [h]⟩
theorem getD_lt {xs : List Nat} {B k : Nat} (h : ∀ x ∈ xs, x < B) (hk : k < xs.length) : xs.getD k 0 < B := by
  rw [List.getD_eq_getElem?_getD, List.getElem?_eq_getElem hk]; exact h _ (List.getElem_mem hk)

/-- The slice .slice a n c reads as the bytes xs. -/
structure RB (w : World) (a : Option Addr) (n c : Nat) (xs : List Nat) : Prop where
  len : xs.length = n
  le : n ≤ c
  top : c ≤ maxLen
  byte : ∀ x ∈ xs, x < 256
  at_ : 0 < n → ∃ b o, a = some ⟨b, o, none⟩ ∧ Bytes w b o xs

theorem RB.below {w w' : World} {B : Nat} {a : Option Addr} {n c : Nat} {xs : List Nat} (h : RB w a n c xs) (hb : Below B w w') (hB : w.heap.size ≤ B) : RB w' a n c xs :=
  ⟨h.len, h.le, h.top, h.byte, fun hn => by obtain ⟨b, o, e, hc⟩ := h.at_ hn; exact ⟨b, o, e, hc.below hb hB⟩⟩
theorem RB.of_row {w : World} {a : Option Addr} {n c : Nat} {xs : List Int} (h : IsRow .u8 w a n c xs) : RB w a n c (xs.map Int.toNat) := by
  obtain ⟨h1, h2, h3, h4, h5⟩ := h
  have hb : ∀ x ∈ xs, 0 ≤ x ∧ x ≤ 255 := fun x hx => bounds_u8 (h4 x hx)
  refine ⟨by simpa using h1, h2, h3, fun y hy => by obtain ⟨x, hx, rfl⟩ := List.mem_map.1 hy; have := hb x hx; omega, fun hn => ?_⟩
  obtain ⟨b, o, e, _, hc⟩ := h5 hn
  refine ⟨b, o, e, fun i hi => ?_⟩
  have hi' : i < xs.length := by simpa using hi
  rw [hc i (by omega)]
  have hx := hb xs[i] (List.getElem_mem hi')
  simp only [List.getD_eq_getElem?_getD, List.getElem?_map, List.getElem?_eq_getElem hi', Option.map_some, Option.getD_some]
  rw [Int.toNat_of_nonneg hx.1]
theorem RB.nil (w : World) : RB w none 0 0 [] := ⟨rfl, Nat.le_refl _, Nat.zero_le _, by simp, fun h => absurd h (by omega)⟩

/-- A cut of a slice, as the walk comes to it. -/
def cutA (a : Option Addr) (c lo : Nat) : Option Addr := if c = lo then a else a.map (·.add lo)
theorem RB.cut {w : World} {a : Option Addr} {n c lo hi : Nat} {xs : List Nat} (h : RB w a n c xs) (h1 : lo ≤ hi) (h2 : hi ≤ n) : RB w (cutA a c lo) (hi - lo) (c - lo) ((xs.drop lo).take (hi - lo)) := by
  have hl := h.len
  have hc := h.le
  have ht := h.top
  refine ⟨by rw [List.length_take, List.length_drop]; omega, by omega, by omega, fun x hx => h.byte x (List.mem_of_mem_drop (List.mem_of_mem_take hx)), fun hn => ?_⟩
  obtain ⟨b, o, rfl, hb⟩ := h.at_ (by omega)
  refine ⟨b, o + lo, ?_, fun i hi' => ?_⟩
  · unfold cutA
    rw [if_neg (by omega)]
    simp only [Option.map_some, Addr.add]
    by_cases h0 : lo = 0
    · subst h0; simp
    · simp [h0]
  · have hlt : i < hi - lo := by rw [List.length_take] at hi'; omega
    have := hb (lo + i) (by omega)
    rw [Nat.add_assoc, this]
    simp only [List.getD_eq_getElem?_getD, List.getElem?_take_of_lt hlt, List.getElem?_drop]
theorem cutA_run {P : Program} {t : TypeId} {w : World} (ht : P.underlying t = some (.slice (P.elem t))) (hs : (sizeOf (P.elem t)).run P w = .ok 1 w) (a : Option Addr) (n c : Nat) (k k' : IntKind) (lo hi : Nat) (h1 : lo ≤ hi) (h2 : hi ≤ c) :
    (Instr.slice t (.slice a n c) (some (.int k (lo : Int))) (some (.int k' (hi : Int))) none).run P w = .ok (.slice (cutA a c lo) (hi - lo) (c - lo)) w := by
  rw [run_slice_lh w t a n c ht k k' lo hi (by omega) (by omega) (by omega), hs]
  simp [Result.andThen, sliced, cutA]

/-- The text of a slice. -/
theorem run_text {P : Program} {t e dst : TypeId} {w : World} {a : Option Addr} {n c : Nat} {xs : List Nat} (hs : P.underlying t = some (.slice e)) (he : P.underlying e = some (.int .u8)) (hd : P.underlying dst = some .string)
    (h : RB w a n c xs) : (convert t dst (.slice a n c)).run P w = .ok (.string (txt xs)) w := by
  have hl := h.len
  by_cases h0 : n = 0
  · have hx : xs = [] := List.length_eq_zero_iff.1 (by omega)
    subst hx
    subst h0
    cases a with
    | none => exact run_convert_bytes_nil (P := P) w t e hs he 0 c dst hd
    | some ad =>
      rw [run_convert_bytes_string w t dst e _ 0 c hs he hd, run_bytesToString w _ 0 c [] (by rfl)]
      rfl
  · obtain ⟨b, o, rfl, hb⟩ := h.at_ (by omega)
    rw [run_convert_bytes_arg (P := P) w t e hs he b o n c (xs.map fun (x : Nat) => (x : Int)) (by simp [hl]) (fun i hi => by
      rw [hb i (by omega)]
      simp [List.getElem?_eq_getElem (show i < xs.length by omega)]) dst hd]
    have e : strOfNums (xs.map fun (x : Nat) => (x : Int)) = txt xs := by simp [strOfNums, txt, u8s]
    rw [e]

/-- A slice of the call's own. -/
theorem RB.of_own {w : World} {base n c : Nat} {e : TypeId} {a : Option Addr} {xs : List Nat} (h : w.ownsRow base e 1 (.slice a n c) n (bs xs)) (bx : ∀ x ∈ xs, x < 256) : RB w a n c xs := by
  have hl : xs.length = n := by have := h.1; rw [bs_length] at this; omega
  rcases h.2 with ⟨h0, hn⟩ | ⟨g, cap, cur, hv, hb, hh, hle, hmax, hsz, htake⟩
  · injection h0 with e1 e2 e3
    subst e1 e2 e3
    exact ⟨hl, Nat.le_refl _, Nat.zero_le _, bx, fun h => absurd h (by omega)⟩
  · injection hv with e1 e2 e3
    subst e1 e3
    refine ⟨hl, hle, hmax, bx, fun hn => ⟨g, 0, rfl, fun i hi => ?_⟩⟩
    have hc := h.cellAt i (by omega)
    rw [bs_get hi] at hc
    rw [Nat.zero_add, hc]
end Go.Proofs.YtegohkgmamnkdaaGreat.Rb
