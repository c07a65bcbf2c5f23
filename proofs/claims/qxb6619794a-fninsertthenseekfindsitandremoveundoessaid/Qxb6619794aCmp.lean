import Derived.Test.Qxb6619794aMake
import Derived.Lib.Bytealg
namespace Go.Proofs.Qxb6619794a
open Go.RowKit

set_option maxHeartbeats 400000 in
theorem isNaN54 (x : ByteArray) (w : World) : Calls Try.prog 54 #[.string x] w fun e w' => e = .returned (.bool false) ∧ w' = w := by
  go_enter Try.func54, Try.ntmps54
  go_wp2
  go_ret
  exact ⟨by simp, rfl⟩

set_option maxHeartbeats 400000 in
theorem isNaN60 (x : ByteArray) (w : World) : Calls Try.prog 60 #[.string x] w fun e w' => e = .returned (.bool false) ∧ w' = w := by
  go_enter Try.func60, Try.ntmps60
  go_wp2
  go_ret
  exact ⟨by simp, rfl⟩

theorem less_toList (x y : ByteArray) : Op.bytesLess x.toList y.toList = ltB x y := by
  rw [bytesLess_dec, toList_bs, toList_bs]; rfl

set_option maxHeartbeats 400000 in
theorem cmpLess (x y : ByteArray) (w : World) : Calls Try.prog 53 #[.string x, .string y] w fun e w' => e = .returned (.bool (ltB x y)) ∧ w' = w := by
  go_enter Try.func53, Try.ntmps53
  go_wp2_with (go_at_call 60; refine (isNaN60 _ _).mono ?_; rintro e w' ⟨rfl, rfl⟩)
  go_ret
  exact ⟨ret_bool (less_toList _ _).symm, rfl⟩

theorem run63 (x y : ByteArray) (w : World) : (callFunc 63 #[.string x, .string y]).run Try.prog w = .ok (.value (.int .i64 (Lib.compareBytes (bs x) (bs y)))) w := by
  rw [run_callFunc_extern Try.func63 (by kernel_rfl) (by kernel_rfl) (by kernel_rfl) (e := Extern.BytealgCompare.compare) (by kernel_rfl), Lib.run_compareString]
  rfl

set_option maxHeartbeats 400000 in
theorem cmp59 (x y : ByteArray) (w : World) : Calls Try.prog 59 #[.string x, .string y] w fun e w' => e = .returned (.int .i64 (Lib.compareBytes (bs x) (bs y))) ∧ w' = w := by
  have hx := run63
  go_enter Try.func59, Try.ntmps59
  go_wp2
  go_ret
  exact ⟨rfl, rfl⟩

set_option maxHeartbeats 400000 in
theorem cmp52 (x y : ByteArray) (w : World) : Calls Try.prog 52 #[.string x, .string y] w fun e w' => e = .returned (.int .i64 (Lib.compareBytes (bs x) (bs y))) ∧ w' = w := by
  go_enter Try.func52, Try.ntmps52
  go_wp2_with (go_at_call 59; refine (cmp59 _ _ _).mono ?_; rintro e w' ⟨rfl, rfl⟩)
  go_ret
  exact ⟨rfl, rfl⟩

/-- What chunkOf's comparison answers: -1, 0 or 1. -/
theorem compare_lt : ∀ (x y : List UInt8), (Lib.compareBytes x y < 0 ↔ x < y)
  | [], [] => by simp [Lib.compareBytes]
  | [], _ :: _ => by simp [Lib.compareBytes]
  | _ :: _, [] => by simp [Lib.compareBytes]
  | a :: x, b :: y => by
    unfold Lib.compareBytes
    rw [List.cons_lt_cons_iff]
    by_cases h1 : a < b
    · simp [h1]
    · by_cases h2 : b < a
      · have : a ≠ b := by intro e; subst e; exact h1 h2
        simp [h1, h2, this]
      · have : a = b := by
          rw [UInt8.lt_iff_toNat_lt] at h1 h2
          apply UInt8.toNat_inj.1; omega
        subst this
        simp [compare_lt x y]

theorem compare_eq : ∀ (x y : List UInt8), (Lib.compareBytes x y = 0 ↔ x = y)
  | [], [] => by simp [Lib.compareBytes]
  | [], _ :: _ => by simp [Lib.compareBytes]
  | _ :: _, [] => by simp [Lib.compareBytes]
  | a :: x, b :: y => by
    unfold Lib.compareBytes
    by_cases h1 : a < b
    · have : a ≠ b := by intro e; subst e; exact absurd h1 (UInt8.lt_irrefl _)
      simp [h1, this]
    · by_cases h2 : b < a
      · have : a ≠ b := by intro e; subst e; exact h1 h2
        simp [h1, h2, this]
      · have : a = b := by
          rw [UInt8.lt_iff_toNat_lt] at h1 h2
          apply UInt8.toNat_inj.1; omega
        subst this
        simp [compare_eq x y]

set_option maxHeartbeats 400000 in
theorem cmp51 (pb : Nat) (n ccap : Nat) (b off : Nat) (x key : ByteArray) (w : World) (hn : 0 < n) (hp : w.cell? ⟨pb, 0, none⟩ = some (.slice (some ⟨b, off, none⟩) n ccap)) (hx : w.cell? ⟨b, off, none⟩ = some (.string x)) :
    Calls Try.prog 51 #[.pointer (some ⟨pb, 0, none⟩), .string key] w fun e w' => e = .returned (.int .i64 (Lib.compareBytes (bs x) (bs key))) ∧ w' = w := by
  have hn' : (0 : Int) < (n : Int) := by omega
  go_enter Try.func51, Try.ntmps51
  go_wp2_with (go_at_call 52; refine (cmp52 _ _ _).mono ?_; rintro e w' ⟨rfl, rfl⟩)
  go_ret
  exact ⟨rfl, rfl⟩
end Go.Proofs.Qxb6619794a
