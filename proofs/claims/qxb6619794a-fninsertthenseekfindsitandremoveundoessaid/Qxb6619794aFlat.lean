import Derived.Test.Qxb6619794aHas
namespace Go.Proofs.Qxb6619794a
open Go.RowKit

set_option maxHeartbeats 400000 in
theorem flatPos_in (ao : Option Addr) (cap : Nat) (sss : List (List ByteArray)) (ci i : Nat) (hl : sss.length ≤ 2000000) (hf : sss.flatten.length ≤ 2000000) (w : World) (hs : RowsAt w ao sss)
    (hci : ci < sss.length) (hi : i < sss[ci].length) :
    Calls Try.prog 28 #[.slice ao sss.length cap, .int .i64 ci, .int .i64 i] w fun e w' => e = .returned (.tuple #[.int .i64 (pre sss ci + i), .bool true]) ∧ w' = w := by
  have HS : Hid (RowsAt w ao sss) := hs
  clear hs
  go_enter Try.func28, Try.ntmps28
  go_wp2
  go_loop [8, 9] (fun p c => ∃ k : Nat, k ≤ ci ∧ c = .int .i64 k ∧ p = .int .i64 (pre sss k)) (fun _ c => ci - (intOf c).toNat)
  case atStart => exact ⟨0, Nat.zero_le _, rfl, rfl⟩
  case round =>
    obtain ⟨k, hk, rfl, rfl⟩ := hrel
    have hp := pre_le sss k
    by_cases hlt : k < ci
    · have hlt2 : k < sss.length := by omega
      obtain ⟨b, off, c, ccap, hao, hc, _⟩ := HS.out k hlt2
      subst hao
      have hp2 := pre_le sss (k + 1)
      have HST := pre_step hlt2
      rw [HST] at hp2
      have HST2 : Hid (pre sss (k + 1) = pre sss k + sss[k].length) := HST
      clear HST
      go_wp2
      go_round
      case rel => exact ⟨k + 1, by omega, by go_num, by rw [HST2.out]; go_num⟩
      case measure => simp [intOf]; omega
    · have : k = ci := by omega
      subst this
      obtain ⟨b, off, c, ccap, hao, hc, _⟩ := HS.out k hci
      subst hao
      have hp2 := pre_le sss (k + 1)
      have HST := pre_step hci
      rw [HST] at hp2
      clear HST
      have hne : ((k : Int) == (sss.length : Int)) = false := by rw [beq_eq_false_iff_ne]; omega
      go_wp2
      go_ret2
      exact ⟨rfl, rfl⟩

set_option maxHeartbeats 400000 in
theorem flatPos_end (ao : Option Addr) (cap : Nat) (sss : List (List ByteArray)) (hl : sss.length ≤ 2000000) (hf : sss.flatten.length ≤ 2000000) (w : World) (hs : RowsAt w ao sss) :
    Calls Try.prog 28 #[.slice ao sss.length cap, .int .i64 sss.length, .int .i64 0] w fun e w' => e = .returned (.tuple #[.int .i64 sss.flatten.length, .bool true]) ∧ w' = w := by
  have HS : Hid (RowsAt w ao sss) := hs
  clear hs
  go_enter Try.func28, Try.ntmps28
  go_wp2
  go_loop [8, 9] (fun p c => ∃ k : Nat, k ≤ sss.length ∧ c = .int .i64 k ∧ p = .int .i64 (pre sss k)) (fun _ c => sss.length - (intOf c).toNat)
  case atStart => exact ⟨0, Nat.zero_le _, rfl, rfl⟩
  case round =>
    obtain ⟨k, hk, rfl, rfl⟩ := hrel
    have hp := pre_le sss k
    by_cases hlt : k < sss.length
    · obtain ⟨b, off, c, ccap, hao, hc, _⟩ := HS.out k hlt
      subst hao
      have hp2 := pre_le sss (k + 1)
      have HST := pre_step hlt
      rw [HST] at hp2
      have HST2 : Hid (pre sss (k + 1) = pre sss k + sss[k].length) := HST
      clear HST
      go_wp2
      go_round
      case rel => exact ⟨k + 1, by omega, by go_num, by rw [HST2.out]; go_num⟩
      case measure => simp [intOf]; omega
    · go_wp2
      go_ret2
      have : k = sss.length := by omega
      subst this
      exact ⟨by simp [pre], rfl⟩

end Go.Proofs.Qxb6619794a
