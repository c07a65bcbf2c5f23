import Derived.Test.Qxb6619794aSize
namespace Go.Proofs.Qxb6619794a
open Go.RowKit

set_option maxHeartbeats 1000000 in
theorem bytes_30 (ao : Option Addr) (cap : Nat) (sss : List (List ByteArray)) (eo : Option Addr) (ne ec : Nat) (ep : Int) (sh : Bool) (key : ByteArray) (w : World) (hs : RowsAt w ao sss) :
    Calls Try.prog 30 #[.slice ao sss.length cap, .slice eo ne ec, .int .u64 ep, .bool sh, .string key] w fun e w' => RetB (fun _ => True) e ∧ w' = w := by
  have HS : Hid (RowsAt w ao sss) := hs
  clear hs
  by_cases h3 : 1048576 < sss.length
  · go_enter Try.func30, Try.ntmps30
    go_wp2
    go_ret
    exact ⟨.no rfl trivial, rfl⟩
  have d3 : decide ((1048576 : Int) < (sss.length : Int)) = false := by rw [decide_eq_false_iff_not]; omega
  go_enter Try.func30, Try.ntmps30
  go_wp2
  go_loop [11, 12] (fun t i => ∃ k T : Nat, k ≤ sss.length ∧ i = .int .i64 k ∧ t = .int .i64 T ∧ T ≤ 1048576) (fun _ i => sss.length - (intOf i).toNat)
  case atStart => exact ⟨0, sss.length, Nat.zero_le _, rfl, rfl, by omega⟩
  case round =>
    obtain ⟨k, T, hk, rfl, rfl, hTB⟩ := hrel
    by_cases hlt : k < sss.length
    · obtain ⟨b, off, c, ccap, hao, hc, hss⟩ := HS.out k hlt
      subst hao
      have HSS : Hid (StrsAt w c sss[k]) := hss
      clear hss
      by_cases g1 : 1048576 < sss[k].length
      · go_wp2
        go_ret
        exact ⟨.no rfl trivial, rfl⟩
      have e1 : decide ((1048576 : Int) < (sss[k].length : Int)) = false := by rw [decide_eq_false_iff_not]; omega
      by_cases g2 : 1048576 < T + sss[k].length
      · go_wp2
        go_ret
        exact ⟨.no rfl trivial, rfl⟩
      have e2 : decide ((1048576 : Int) < (T : Int) + (sss[k].length : Int)) = false := by rw [decide_eq_false_iff_not]; omega
      go_wp2
      go_loop [11, 13] (fun t i => ∃ j T2 : Nat, j ≤ sss[k].length ∧ i = .int .i64 j ∧ t = .int .i64 T2 ∧ T2 ≤ 1048576) (fun _ i => sss[k].length - (intOf i).toNat)
      case atStart => exact ⟨0, T + sss[k].length, Nat.zero_le _, rfl, by go_num, by omega⟩
      case round =>
        obtain ⟨j, T2, hj, rfl, rfl, hT2B⟩ := hrel
        by_cases hjl : j < sss[k].length
        · obtain ⟨cb, co, hao1, hc1⟩ := HSS.out j hjl
          subst hao1
          by_cases g3 : 1048576 < sss[k][j].size
          · go_wp2
            go_ret
            exact ⟨.no rfl trivial, rfl⟩
          have e3 : decide ((1048576 : Int) < (sss[k][j].size : Int)) = false := by rw [decide_eq_false_iff_not]; omega
          by_cases g4 : 1048576 < T2 + sss[k][j].size
          · go_wp2
            go_ret
            exact ⟨.no rfl trivial, rfl⟩
          have e4 : decide ((1048576 : Int) < (T2 : Int) + (sss[k][j].size : Int)) = false := by rw [decide_eq_false_iff_not]; omega
          go_wp2
          go_round
          case rel => exact ⟨j + 1, T2 + sss[k][j].size, by omega, by go_num, by go_num, by omega⟩
          case measure => simp [intOf]; omega
        · go_wp2
          go_round
          case rel => exact ⟨k + 1, T2, by omega, by go_num, rfl, hT2B⟩
          case measure => simp [intOf]; omega
    · by_cases g5 : 1048576 < ne
      · go_wp2
        go_ret
        exact ⟨.no rfl trivial, rfl⟩
      by_cases g6 : 1048576 < T + ne
      · go_wp2
        go_ret
        exact ⟨.no rfl trivial, rfl⟩
      by_cases g7 : 1048576 < key.size
      · go_wp2
        go_ret
        exact ⟨.no rfl trivial, rfl⟩
      by_cases g8 : 1048576 < T + ne + key.size
      · go_wp2
        go_ret
        exact ⟨.no rfl trivial, rfl⟩
      go_wp2
      go_ret
      exact ⟨.yes rfl trivial, rfl⟩

set_option maxHeartbeats 1000000 in
theorem bytes_33 (ao : Option Addr) (cap : Nat) (sss : List (List ByteArray)) (eo : Option Addr) (ne ec : Nat) (ep : Int) (sh : Bool) (key : ByteArray) (w : World) (hs : RowsAt w ao sss) :
    Calls Try.prog 33 #[.slice ao sss.length cap, .slice eo ne ec, .int .u64 ep, .bool sh, .string key] w fun e w' => RetB (fun _ => True) e ∧ w' = w := by
  have HS : Hid (RowsAt w ao sss) := hs
  clear hs
  by_cases h3 : 1048576 < sss.length
  · go_enter Try.func33, Try.ntmps33
    go_wp2
    go_ret
    exact ⟨.no rfl trivial, rfl⟩
  have d3 : decide ((1048576 : Int) < (sss.length : Int)) = false := by rw [decide_eq_false_iff_not]; omega
  go_enter Try.func33, Try.ntmps33
  go_wp2
  go_loop [11, 12] (fun t i => ∃ k T : Nat, k ≤ sss.length ∧ i = .int .i64 k ∧ t = .int .i64 T ∧ T ≤ 1048576) (fun _ i => sss.length - (intOf i).toNat)
  case atStart => exact ⟨0, sss.length, Nat.zero_le _, rfl, rfl, by omega⟩
  case round =>
    obtain ⟨k, T, hk, rfl, rfl, hTB⟩ := hrel
    by_cases hlt : k < sss.length
    · obtain ⟨b, off, c, ccap, hao, hc, hss⟩ := HS.out k hlt
      subst hao
      have HSS : Hid (StrsAt w c sss[k]) := hss
      clear hss
      by_cases g1 : 1048576 < sss[k].length
      · go_wp2
        go_ret
        exact ⟨.no rfl trivial, rfl⟩
      have e1 : decide ((1048576 : Int) < (sss[k].length : Int)) = false := by rw [decide_eq_false_iff_not]; omega
      by_cases g2 : 1048576 < T + sss[k].length
      · go_wp2
        go_ret
        exact ⟨.no rfl trivial, rfl⟩
      have e2 : decide ((1048576 : Int) < (T : Int) + (sss[k].length : Int)) = false := by rw [decide_eq_false_iff_not]; omega
      go_wp2
      go_loop [11, 13] (fun t i => ∃ j T2 : Nat, j ≤ sss[k].length ∧ i = .int .i64 j ∧ t = .int .i64 T2 ∧ T2 ≤ 1048576) (fun _ i => sss[k].length - (intOf i).toNat)
      case atStart => exact ⟨0, T + sss[k].length, Nat.zero_le _, rfl, by go_num, by omega⟩
      case round =>
        obtain ⟨j, T2, hj, rfl, rfl, hT2B⟩ := hrel
        by_cases hjl : j < sss[k].length
        · obtain ⟨cb, co, hao1, hc1⟩ := HSS.out j hjl
          subst hao1
          by_cases g3 : 1048576 < sss[k][j].size
          · go_wp2
            go_ret
            exact ⟨.no rfl trivial, rfl⟩
          have e3 : decide ((1048576 : Int) < (sss[k][j].size : Int)) = false := by rw [decide_eq_false_iff_not]; omega
          by_cases g4 : 1048576 < T2 + sss[k][j].size
          · go_wp2
            go_ret
            exact ⟨.no rfl trivial, rfl⟩
          have e4 : decide ((1048576 : Int) < (T2 : Int) + (sss[k][j].size : Int)) = false := by rw [decide_eq_false_iff_not]; omega
          go_wp2
          go_round
          case rel => exact ⟨j + 1, T2 + sss[k][j].size, by omega, by go_num, by go_num, by omega⟩
          case measure => simp [intOf]; omega
        · go_wp2
          go_round
          case rel => exact ⟨k + 1, T2, by omega, by go_num, rfl, hT2B⟩
          case measure => simp [intOf]; omega
    · by_cases g5 : 1048576 < ne
      · go_wp2
        go_ret
        exact ⟨.no rfl trivial, rfl⟩
      by_cases g6 : 1048576 < T + ne
      · go_wp2
        go_ret
        exact ⟨.no rfl trivial, rfl⟩
      by_cases g7 : 1048576 < key.size
      · go_wp2
        go_ret
        exact ⟨.no rfl trivial, rfl⟩
      by_cases g8 : 1048576 < T + ne + key.size
      · go_wp2
        go_ret
        exact ⟨.no rfl trivial, rfl⟩
      go_wp2
      go_ret
      exact ⟨.yes rfl trivial, rfl⟩

end Go.Proofs.Qxb6619794a
