import Derived.Test.Qxb6619794aLess
namespace Go.Proofs.Qxb6619794a
open Go.RowKit

set_option maxHeartbeats 400000 in
theorem has_any (ao : Option Addr) (cap : Nat) (ss : List ByteArray) (key : ByteArray) (hl : ss.length ≤ 2000000) (w : World) (hs : StrsAt w ao ss) :
    Calls Try.prog 14 #[.slice ao ss.length cap, .string key] w fun e w' => e = .returned (.bool (hasB ss key)) ∧ w' = w := by
  have HS : Hid (StrsAt w ao ss) := hs
  clear hs
  go_enter Try.func14, Try.ntmps14
  go_wp2
  go_loop [5] (fun i => ∃ k : Nat, k ≤ ss.length ∧ i = .int .i64 k ∧ hasB (ss.take k) key = false) (fun i => ss.length - (intOf i).toNat)
  case atStart => exact ⟨0, Nat.zero_le _, rfl, rfl⟩
  case round =>
    obtain ⟨k, hk, rfl, hno⟩ := hrel
    have HN : Hid (hasB (ss.take k) key = false) := hno
    clear hno
    by_cases hlt : k < ss.length
    · obtain ⟨b, off, hao, hc⟩ := HS.out k hlt
      subst hao
      go_wp2
      · go_ret
        exact ⟨ret_bool (hasB_yes hlt ‹_›), rfl⟩
      · go_round
        case rel => exact ⟨k + 1, by omega, by go_num, hasB_step hlt HN.out ‹_›⟩
        case measure => simp [intOf]; omega
    · go_wp2
      go_ret
      exact ⟨ret_bool (by have := HN.out; rwa [List.take_of_length_le (by omega)] at this), rfl⟩

set_option maxHeartbeats 400000 in
theorem countBelow_any (ao : Option Addr) (cap : Nat) (ss : List ByteArray) (key : ByteArray) (hl : ss.length ≤ 2000000) (hb : ∀ s ∈ ss, s.size ≤ 2000000) (hk : key.size ≤ 2000000) (w : World) (hs : StrsAt w ao ss) :
    Calls Try.prog 29 #[.slice ao ss.length cap, .string key] w fun e w' => e = .returned (.int .i64 (below ss key)) ∧ ∃ n, w' = w.drewN n := by
  have HS : Hid (StrsAt w ao ss) := hs
  have HB : Hid (∀ s ∈ ss, s.size ≤ 2000000) := hb
  clear hs hb
  go_enter Try.func29, Try.ntmps29
  go_wp2
  go_loopw [5, 6] (fun c i wr => ∃ k : Nat, k ≤ ss.length ∧ i = .int .i64 k ∧ c = .int .i64 (below (ss.take k) key) ∧ ∃ n, wr = w.drewN n) (fun _ i _ => ss.length - (intOf i).toNat)
  case atStart => exact ⟨0, Nat.zero_le _, rfl, rfl, 0, rfl⟩
  case round =>
    obtain ⟨k, hk, rfl, rfl, n, rfl⟩ := hrel
    by_cases hlt : k < ss.length
    · obtain ⟨b, off, hao, hc⟩ := HS.out k hlt
      subst hao
      have h1 := below_le (ss.take k) key
      have h2 : (ss.take k).length ≤ k := List.length_take_le _ _
      have h3 : ss[k].size ≤ 2000000 := HB.out _ (List.getElem_mem hlt)
      have HST : Hid (below (ss.take (k + 1)) key = below (ss.take k) key + (if ltB ss[k] key = true then 1 else 0)) := below_step hlt
      cases hq : ltB ss[k] key
      all_goals
        go_wp2_with (go_at_call 35; refine (less_any _ _ (by assumption) (by assumption) _).mono ?_; rintro e w' ⟨rfl, nq, rfl⟩)
        go_roundw
        case rel => exact ⟨k + 1, by omega, by go_num, by rw [HST.out, hq]; go_num, _, rfl⟩
        case measure => simp [intOf]; omega
    · go_wp2
      go_ret
      exact ⟨ret_int (by rw [List.take_of_length_le (by omega)]), _, rfl⟩
end Go.Proofs.Qxb6619794a
