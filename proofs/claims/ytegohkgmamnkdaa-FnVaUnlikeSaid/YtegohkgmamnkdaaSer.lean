/- The generated writers of a node's fields, walked: each calls the builder's own. No condition. -/
import Derived.Test.YtegohkgmamnkdaaNew
set_option linter.unusedVariables false
namespace Go.Proofs.Ytegohkgmamnkdaa.Msg
open Go.ChangeShapes Go.WideShapes Go.ChangeAt Go.RowKit
open Go.Proofs.Ytegohkgmamnkdaa.Dig Go.Proofs.Ytegohkgmamnkdaa.Mem Go.Proofs.Ytegohkgmamnkdaa.Rb

theorem nAddKeyItems (w : World) (B : Nat) (v : Int) (Q : World → Prop) (h : Calls Try.prog 45 #[.pointer (some ⟨B, 0, none⟩), .int .i64 0, .int .u32 v, .int .u32 0] w fun e w' => e = .returned (.tuple #[]) ∧ Q w') :
    Calls Try.prog 20 #[.pointer (some ⟨B, 0, none⟩), .int .u32 v] w fun e w' => e = .returned (.tuple #[]) ∧ Q w' := by
  have K := Lib.hid h
  clear h
  go_enter Try.func20, Try.ntmps20
  go_wp2_with (go_at_call 45; (with_reducible refine K.out.mono ?_); rintro e w1 ⟨rfl, h1⟩; have H1 := Lib.hid h1; clear h1)
  go_end0
  exact ⟨rfl, H1.out⟩

theorem nAddKeyOffsets (w : World) (B : Nat) (v : Int) (Q : World → Prop) (h : Calls Try.prog 45 #[.pointer (some ⟨B, 0, none⟩), .int .i64 1, .int .u32 v, .int .u32 0] w fun e w' => e = .returned (.tuple #[]) ∧ Q w') :
    Calls Try.prog 21 #[.pointer (some ⟨B, 0, none⟩), .int .u32 v] w fun e w' => e = .returned (.tuple #[]) ∧ Q w' := by
  have K := Lib.hid h
  clear h
  go_enter Try.func21, Try.ntmps21
  go_wp2_with (go_at_call 45; (with_reducible refine K.out.mono ?_); rintro e w1 ⟨rfl, h1⟩; have H1 := Lib.hid h1; clear h1)
  go_end0
  exact ⟨rfl, H1.out⟩

theorem nAddValueItems (w : World) (B : Nat) (v : Int) (Q : World → Prop) (h : Calls Try.prog 45 #[.pointer (some ⟨B, 0, none⟩), .int .i64 3, .int .u32 v, .int .u32 0] w fun e w' => e = .returned (.tuple #[]) ∧ Q w') :
    Calls Try.prog 22 #[.pointer (some ⟨B, 0, none⟩), .int .u32 v] w fun e w' => e = .returned (.tuple #[]) ∧ Q w' := by
  have K := Lib.hid h
  clear h
  go_enter Try.func22, Try.ntmps22
  go_wp2_with (go_at_call 45; (with_reducible refine K.out.mono ?_); rintro e w1 ⟨rfl, h1⟩; have H1 := Lib.hid h1; clear h1)
  go_end0
  exact ⟨rfl, H1.out⟩

theorem nAddValueOffsets (w : World) (B : Nat) (v : Int) (Q : World → Prop) (h : Calls Try.prog 45 #[.pointer (some ⟨B, 0, none⟩), .int .i64 4, .int .u32 v, .int .u32 0] w fun e w' => e = .returned (.tuple #[]) ∧ Q w') :
    Calls Try.prog 23 #[.pointer (some ⟨B, 0, none⟩), .int .u32 v] w fun e w' => e = .returned (.tuple #[]) ∧ Q w' := by
  have K := Lib.hid h
  clear h
  go_enter Try.func23, Try.ntmps23
  go_wp2_with (go_at_call 45; (with_reducible refine K.out.mono ?_); rintro e w1 ⟨rfl, h1⟩; have H1 := Lib.hid h1; clear h1)
  go_end0
  exact ⟨rfl, H1.out⟩

theorem nAddAddressArray (w : World) (B : Nat) (v : Int) (Q : World → Prop) (h : Calls Try.prog 45 #[.pointer (some ⟨B, 0, none⟩), .int .i64 7, .int .u32 v, .int .u32 0] w fun e w' => e = .returned (.tuple #[]) ∧ Q w') :
    Calls Try.prog 25 #[.pointer (some ⟨B, 0, none⟩), .int .u32 v] w fun e w' => e = .returned (.tuple #[]) ∧ Q w' := by
  have K := Lib.hid h
  clear h
  go_enter Try.func25, Try.ntmps25
  go_wp2_with (go_at_call 45; (with_reducible refine K.out.mono ?_); rintro e w1 ⟨rfl, h1⟩; have H1 := Lib.hid h1; clear h1)
  go_end0
  exact ⟨rfl, H1.out⟩

theorem nAddSubtreeCounts (w : World) (B : Nat) (v : Int) (Q : World → Prop) (h : Calls Try.prog 45 #[.pointer (some ⟨B, 0, none⟩), .int .i64 8, .int .u32 v, .int .u32 0] w fun e w' => e = .returned (.tuple #[]) ∧ Q w') :
    Calls Try.prog 26 #[.pointer (some ⟨B, 0, none⟩), .int .u32 v] w fun e w' => e = .returned (.tuple #[]) ∧ Q w' := by
  have K := Lib.hid h
  clear h
  go_enter Try.func26, Try.ntmps26
  go_wp2_with (go_at_call 45; (with_reducible refine K.out.mono ?_); rintro e w1 ⟨rfl, h1⟩; have H1 := Lib.hid h1; clear h1)
  go_end0
  exact ⟨rfl, H1.out⟩

theorem nAddTreeCount (w : World) (B : Nat) (v : Int) (Q : World → Prop) (h : Calls Try.prog 46 #[.pointer (some ⟨B, 0, none⟩), .int .i64 9, .int .u64 v, .int .u64 0] w fun e w' => e = .returned (.tuple #[]) ∧ Q w') :
    Calls Try.prog 24 #[.pointer (some ⟨B, 0, none⟩), .int .u64 v] w fun e w' => e = .returned (.tuple #[]) ∧ Q w' := by
  have K := Lib.hid h
  clear h
  go_enter Try.func24, Try.ntmps24
  go_wp2_with (go_at_call 46; (with_reducible refine K.out.mono ?_); rintro e w1 ⟨rfl, h1⟩; have H1 := Lib.hid h1; clear h1)
  go_end0
  exact ⟨rfl, H1.out⟩

theorem nAddKeyType (w : World) (B : Nat) (v : Int) (Q : World → Prop) (h : Calls Try.prog 47 #[.pointer (some ⟨B, 0, none⟩), .int .i64 2, .int .u8 v, .int .u8 0] w fun e w' => e = .returned (.tuple #[]) ∧ Q w') :
    Calls Try.prog 28 #[.pointer (some ⟨B, 0, none⟩), .int .u8 v] w fun e w' => e = .returned (.tuple #[]) ∧ Q w' := by
  have K := Lib.hid h
  clear h
  go_enter Try.func28, Try.ntmps28
  go_wp2_with (go_at_call 47; (with_reducible refine K.out.mono ?_); rintro e w1 ⟨rfl, h1⟩; have H1 := Lib.hid h1; clear h1)
  go_end0
  exact ⟨rfl, H1.out⟩

theorem nAddValueType (w : World) (B : Nat) (v : Int) (Q : World → Prop) (h : Calls Try.prog 47 #[.pointer (some ⟨B, 0, none⟩), .int .i64 5, .int .u8 v, .int .u8 0] w fun e w' => e = .returned (.tuple #[]) ∧ Q w') :
    Calls Try.prog 29 #[.pointer (some ⟨B, 0, none⟩), .int .u8 v] w fun e w' => e = .returned (.tuple #[]) ∧ Q w' := by
  have K := Lib.hid h
  clear h
  go_enter Try.func29, Try.ntmps29
  go_wp2_with (go_at_call 47; (with_reducible refine K.out.mono ?_); rintro e w1 ⟨rfl, h1⟩; have H1 := Lib.hid h1; clear h1)
  go_end0
  exact ⟨rfl, H1.out⟩

theorem nAddTreeLevel (w : World) (B : Nat) (v : Int) (Q : World → Prop) (h : Calls Try.prog 47 #[.pointer (some ⟨B, 0, none⟩), .int .i64 10, .int .u8 v, .int .u8 0] w fun e w' => e = .returned (.tuple #[]) ∧ Q w') :
    Calls Try.prog 30 #[.pointer (some ⟨B, 0, none⟩), .int .u8 v] w fun e w' => e = .returned (.tuple #[]) ∧ Q w' := by
  have K := Lib.hid h
  clear h
  go_enter Try.func30, Try.ntmps30
  go_wp2_with (go_at_call 47; (with_reducible refine K.out.mono ?_); rintro e w1 ⟨rfl, h1⟩; have H1 := Lib.hid h1; clear h1)
  go_end0
  exact ⟨rfl, H1.out⟩

theorem nStart (w : World) (B : Nat)  (Q : World → Prop) (h : Calls Try.prog 44 #[.pointer (some ⟨B, 0, none⟩), .int .i64 11] w fun e w' => e = .returned (.tuple #[]) ∧ Q w') :
    Calls Try.prog 19 #[.pointer (some ⟨B, 0, none⟩)] w fun e w' => e = .returned (.tuple #[]) ∧ Q w' := by
  have K := Lib.hid h
  clear h
  go_enter Try.func19, Try.ntmps19
  go_wp2_with (go_at_call 44; (with_reducible refine K.out.mono ?_); rintro e w1 ⟨rfl, h1⟩; have H1 := Lib.hid h1; clear h1)
  go_end0
  exact ⟨rfl, H1.out⟩

theorem nStartKeyOffsets (w : World) (B : Nat) (v : Int) (Q : World → Prop) (h : Calls Try.prog 39 #[.pointer (some ⟨B, 0, none⟩), .int .i64 2, .int .i64 v, .int .i64 2] w fun e w' => (∃ v, e = .returned (.int .u32 v)) ∧ Q w') :
    Calls Try.prog 15 #[.pointer (some ⟨B, 0, none⟩), .int .i64 v] w fun e w' => (∃ v, e = .returned (.int .u32 v)) ∧ Q w' := by
  have K := Lib.hid h
  clear h
  go_enter Try.func15, Try.ntmps15
  go_wp2_with (go_at_call 39; (with_reducible refine K.out.mono ?_); rintro e w1 ⟨⟨v, rfl⟩, h1⟩; have H1 := Lib.hid h1; clear h1)
  go_ret
  exact ⟨⟨v, rfl⟩, H1.out⟩

theorem nStartValueOffsets (w : World) (B : Nat) (v : Int) (Q : World → Prop) (h : Calls Try.prog 39 #[.pointer (some ⟨B, 0, none⟩), .int .i64 2, .int .i64 v, .int .i64 2] w fun e w' => (∃ v, e = .returned (.int .u32 v)) ∧ Q w') :
    Calls Try.prog 17 #[.pointer (some ⟨B, 0, none⟩), .int .i64 v] w fun e w' => (∃ v, e = .returned (.int .u32 v)) ∧ Q w' := by
  have K := Lib.hid h
  clear h
  go_enter Try.func17, Try.ntmps17
  go_wp2_with (go_at_call 39; (with_reducible refine K.out.mono ?_); rintro e w1 ⟨⟨v, rfl⟩, h1⟩; have H1 := Lib.hid h1; clear h1)
  go_ret
  exact ⟨⟨v, rfl⟩, H1.out⟩

theorem nEnd (w : World) (B : Nat) (v : Int) (Q : World → Prop) (h : Calls Try.prog 50 #[.pointer (some ⟨B, 0, none⟩)] w fun e w' => e = .returned (.int .u32 v) ∧ Q w') :
    Calls Try.prog 32 #[.pointer (some ⟨B, 0, none⟩)] w fun e w' => e = .returned (.int .u32 v) ∧ Q w' := by
  have K := Lib.hid h
  clear h
  go_enter Try.func32, Try.ntmps32
  go_wp2_with (go_at_call 50; (with_reducible refine K.out.mono ?_); rintro e w1 ⟨rfl, h1⟩; have H1 := Lib.hid h1; clear h1)
  go_ret
  exact ⟨rfl, H1.out⟩
end Go.Proofs.Ytegohkgmamnkdaa.Msg
