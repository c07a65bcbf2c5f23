import Derived.Test.Qxb6619498aMost
import Derived.Test.Qxb6619498aWcall
namespace Go.Proofs.Qxb6619498a
open Go.RowKit

set_option maxHeartbeats 2000000 in
set_option maxRecDepth 100000 in
theorem bytes18 (n t step first stop width block : Int) (ao : Option Addr) (cap : Nat) (rows : List HM) (po : Option Addr) (pl pcap : Nat) (w : World) (hs : HeardAt w ao rows) :
    Calls Try.prog 18 #[.int .i64 n, .int .i64 t, .int .i64 step, .int .i64 first, .int .i64 stop, .int .i64 width, .int .i64 block, .slice ao rows.length cap, .slice po pl pcap] w fun e w' => AnyB w e w' := by
  have HS : Hid (HeardAt w ao rows) := hs
  clear hs
  by_cases hbig : 1048576 < rows.length
  · go_enter Try.func18, Try.ntmps18
    go_wp2
    go_ret
    exact ⟨⟨false, rfl⟩, rfl⟩
  have hbd : decide ((1048576 : Int) < (rows.length : Int)) = false := by rw [decide_eq_false_iff_not]; omega
  go_enter Try.func18, Try.ntmps18
  go_wp2
  go_loop [19, 20] (fun z i => ∃ (k : Nat) (y : Int), k ≤ rows.length ∧ i = .int .i64 k ∧ z = .int .i64 y) (fun _ i => rows.length - (intOf i).toNat)
  case atStart => exact ⟨0, _, Nat.zero_le _, rfl, rfl⟩
  case round =>
    obtain ⟨k, y, hk, rfl, rfl⟩ := hrel
    by_cases hlt : k < rows.length
    · obtain ⟨b, off, rfl, _, hc2, _⟩ := HS.out k hlt
      have hx1 : (k : Int) < (rows.length : Int) := by omega
      generalize rows[k] = c at *
      obtain ⟨fr, pao, pcap', ps⟩ := c
      simp only at hc2
      by_cases h1 : (1048576 : Int) < (ps.length : Int)
      · have hd1 : decide ((1048576 : Int) < (ps.length : Int)) = true := by rw [decide_eq_true_iff]; exact h1
        go_wp2
        go_ret
        exact ⟨⟨false, rfl⟩, rfl⟩
      have hd1 : decide ((1048576 : Int) < (ps.length : Int)) = false := by rw [decide_eq_false_iff_not]; exact h1
      obtain ⟨y2, hy2⟩ : ∃ y2, IntKind.i64.wrap (y + (ps.length : Int)) = y2 := ⟨_, rfl⟩
      by_cases h2 : (1048576 : Int) < y2
      · have hd2 : decide ((1048576 : Int) < y2) = true := by rw [decide_eq_true_iff]; exact h2
        go_wp2
        go_ret
        exact ⟨⟨false, rfl⟩, rfl⟩
      have hd2 : decide ((1048576 : Int) < y2) = false := by rw [decide_eq_false_iff_not]; exact h2
      go_wp2
      go_round
      case rel => exact ⟨k + 1, _, by omega, by go_num, rfl⟩
      case measure => simp [intOf]; omega
    · have hke : k = rows.length := by omega
      subst hke
      by_cases h1 : (1048576 : Int) < (pl : Int)
      · have hd1 : decide ((1048576 : Int) < (pl : Int)) = true := by rw [decide_eq_true_iff]; exact h1
        go_wp2
        go_ret
        exact ⟨⟨false, rfl⟩, rfl⟩
      have hd1 : decide ((1048576 : Int) < (pl : Int)) = false := by rw [decide_eq_false_iff_not]; exact h1
      obtain ⟨y2, hy2⟩ : ∃ y2, IntKind.i64.wrap (y + (pl : Int)) = y2 := ⟨_, rfl⟩
      by_cases h2 : (1048576 : Int) < y2
      · have hd2 : decide ((1048576 : Int) < y2) = true := by rw [decide_eq_true_iff]; exact h2
        go_wp2
        go_ret
        exact ⟨⟨false, rfl⟩, rfl⟩
      have hd2 : decide ((1048576 : Int) < y2) = false := by rw [decide_eq_false_iff_not]; exact h2
      go_wp2
      go_ret
      exact ⟨⟨true, rfl⟩, rfl⟩
end Go.Proofs.Qxb6619498a
