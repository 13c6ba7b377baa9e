/- Plain facts on the order of bytes as the model's entry has it. No condition. -/
import Derived.Test.YtegohkgmamnkdaaGreatMem
import Derived.Test.YtegohkgmamnkdaaGreatDig
import Derived.Lib.BytesEntry
set_option linter.unusedVariables false
namespace Go.Proofs.YtegohkgmamnkdaaGreat.Mem
open Go.ChangeShapes Go.WideShapes Go.ChangeAt Go.RowKit
open Go.Proofs.YtegohkgmamnkdaaGreat.Dig

/-- A byte list as the model's bytes. -/
def u8s (xs : List Nat) : List UInt8 := xs.map UInt8.ofNat
theorem u8s_length (xs : List Nat) : (u8s xs).length = xs.length := by simp [u8s]
theorem compare_ord : ∀ {xs ys : List Nat}, (∀ x ∈ xs, x < 256) → (∀ y ∈ ys, y < 256) → Lib.compareBytes (u8s xs) (u8s ys) = ord xs ys
  | [], [], _, _ => rfl
  | [], _ :: _, _, _ => rfl
  | _ :: _, [], _, _ => rfl
  | a :: x, b :: y, hx, hy => by
    have ih := compare_ord (xs := x) (ys := y) (fun d h => hx d (List.mem_cons_of_mem _ h)) (fun d h => hy d (List.mem_cons_of_mem _ h))
    have ha := hx a (List.mem_cons_self ..)
    have hb := hy b (List.mem_cons_self ..)
    have e : ∀ {p q : Nat}, p < 256 → q < 256 → (UInt8.ofNat p < UInt8.ofNat q ↔ p < q) := by
      intro p q hp hq
      rw [UInt8.lt_iff_toNat_lt, UInt8.toNat_ofNat', UInt8.toNat_ofNat', Nat.mod_eq_of_lt hp, Nat.mod_eq_of_lt hq]
    simp only [u8s, List.map_cons, Lib.compareBytes, ord, e ha hb, e hb ha]
    rw [show Lib.compareBytes (x.map UInt8.ofNat) (y.map UInt8.ofNat) = ord x y from ih]

/-- What the cells of a slice of bytes hold. -/
def Bytes (w : World) (b o : Nat) (xs : List Nat) : Prop := ∀ i, i < xs.length → w.cell? ⟨b, o + i, none⟩ = some (.int .u8 ((xs.getD i 0 : Nat) : Int))
theorem Bytes.lt {w : World} {b o : Nat} {xs : List Nat} (h : Bytes w b o xs) (h0 : 0 < xs.length) : b < w.heap.size := lt_of_cell (h 0 h0)
theorem Bytes.below {w w' : World} {B b o : Nat} {xs : List Nat} (h : Bytes w b o xs) (hb : Below B w w') (hB : w.heap.size ≤ B) : Bytes w' b o xs := fun i hi =>
  (hb.cell (p := ⟨b, o + i, none⟩) (Nat.lt_of_lt_of_le (lt_of_cell (h i hi)) hB)).trans (h i hi)

theorem run_bytesOf {P : Program} {w : World} {b o n c : Nat} {xs : List Nat} (hn : xs.length = n) (h : Bytes w b o xs) :
    (Extern.Bytes.bytesOf (.slice (some ⟨b, o, none⟩) n c)).run P w = .ok ⟨(u8s xs).toArray⟩ w := by
  have hl := Lib.run_loadBytesX (P := P) w (xs.map fun (x : Nat) => (x : Int)) ⟨b, o, none⟩ .empty (fun j x hj => by
    have hjl : j < xs.length := by have := (List.getElem?_eq_some_iff.1 hj).1; simpa using this
    have e : (⟨b, o, none⟩ : Addr).add j = ⟨b, o + j, none⟩ := by unfold Addr.add; split <;> simp_all
    rw [e, h j hjl, List.getD_eq_getElem?_getD, List.getElem?_eq_getElem hjl]
    rw [List.getElem?_map, List.getElem?_eq_getElem hjl] at hj
    simp at hj
    simp [hj])
  rw [List.length_map, hn] at hl
  have e1 : Lib.bytesOf (xs.map fun (x : Nat) => (x : Int)) = u8s xs := by simp [Lib.bytesOf, u8s]
  rw [e1] at hl
  have he : (⟨ByteArray.empty.data ++ (u8s xs).toArray⟩ : ByteArray) = ⟨(u8s xs).toArray⟩ := by
    apply ByteArray.ext
    show (#[] : Array UInt8) ++ (u8s xs).toArray = (u8s xs).toArray
    simp
  rw [he] at hl
  exact hl

theorem run_compare {P : Program} {w : World} {b o n c b' o' n' c' : Nat} {xs ys : List Nat} (hn : xs.length = n) (h : Bytes w b o xs) (hn' : ys.length = n') (h' : Bytes w b' o' ys)
    (bx : ∀ x ∈ xs, x < 256) (by_ : ∀ y ∈ ys, y < 256) :
    (Extern.BytealgCompare.compare #[.slice (some ⟨b, o, none⟩) n c, .slice (some ⟨b', o', none⟩) n' c']).run P w = .ok (.int .i64 (ord xs ys)) w := by
  change Sem.run P (do pure (goInt (Extern.BytealgCompare.cmp (← Extern.Bytes.bytesOf (.slice (some ⟨b, o, none⟩) n c)) (← Extern.Bytes.bytesOf (.slice (some ⟨b', o', none⟩) n' c'))))) w = _
  simp only [Sem.run_bind, run_bytesOf hn h, run_bytesOf hn' h', Sem.run_pure, Result.andThen]
  rw [Lib.cmp_eq]
  show Result.ok (goInt (Lib.compareBytes (u8s xs) (u8s ys))) w = _
  rw [compare_ord bx by_]
  rfl

end Go.Proofs.YtegohkgmamnkdaaGreat.Mem
