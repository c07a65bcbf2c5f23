import Derived.Test.Qxb6619794aWell
namespace Go.Proofs.Qxb6619794a
open Go.RowKit

set_option maxHeartbeats 1000000 in
theorem sizeOK_any (ao : Option Addr) (cap : Nat) (sss : List (List ByteArray)) (eo : Option Addr) (ne ec : Nat) (key : ByteArray) (w : World) (hs : RowsAt w ao sss) :
    Calls Try.prog 9 #[.slice ao sss.length cap, .slice eo ne ec, .string key] w fun e w' => RetB (fun b => b = true → key.size + 8 * ne + 24 * sss.length + wtt sss ≤ 1048576) e ∧ w' = w := by
  have HS : Hid (RowsAt w ao sss) := hs
  clear hs
  by_cases h1 : 1048576 < key.size
  · go_enter Try.func9, Try.ntmps9
    go_wp2
    go_ret
    exact ⟨.no rfl (fun h => by cases h), rfl⟩
  by_cases h2 : 1048576 < ne
  · have d1 : decide ((1048576 : Int) < (key.size : Int)) = false := by rw [decide_eq_false_iff_not]; omega
    go_enter Try.func9, Try.ntmps9
    go_wp2
    go_ret
    exact ⟨.no rfl (fun h => by cases h), rfl⟩
  by_cases h3 : 1048576 < sss.length
  · have d1 : decide ((1048576 : Int) < (key.size : Int)) = false := by rw [decide_eq_false_iff_not]; omega
    have d2 : decide ((1048576 : Int) < (ne : Int)) = false := by rw [decide_eq_false_iff_not]; omega
    go_enter Try.func9, Try.ntmps9
    go_wp2
    go_ret
    exact ⟨.no rfl (fun h => by cases h), rfl⟩
  have d1 : decide ((1048576 : Int) < (key.size : Int)) = false := by rw [decide_eq_false_iff_not]; omega
  have d2 : decide ((1048576 : Int) < (ne : Int)) = false := by rw [decide_eq_false_iff_not]; omega
  have d3 : decide ((1048576 : Int) < (sss.length : Int)) = false := by rw [decide_eq_false_iff_not]; omega
  by_cases h4 : 1048576 < key.size + 8 * ne
  · go_enter Try.func9, Try.ntmps9
    go_wp2
    go_ret
    exact ⟨.no rfl (fun h => by cases h), rfl⟩
  have d4 : decide ((1048576 : Int) < (key.size : Int) + 8 * (ne : Int)) = false := by rw [decide_eq_false_iff_not]; omega
  by_cases h5 : 1048576 < key.size + 8 * ne + 24 * sss.length
  · go_enter Try.func9, Try.ntmps9
    go_wp2
    go_ret
    exact ⟨.no rfl (fun h => by cases h), rfl⟩
  have d5 : decide ((1048576 : Int) < (key.size : Int) + 8 * (ne : Int) + 24 * (sss.length : Int)) = false := by rw [decide_eq_false_iff_not]; omega
  go_enter Try.func9, Try.ntmps9
  go_wp2
  go_loop [7, 8] (fun t i => ∃ k T : Nat, k ≤ sss.length ∧ i = .int .i64 k ∧ t = .int .i64 T ∧ T = key.size + 8 * ne + 24 * sss.length + wtt (sss.take k) ∧ T ≤ 1048576) (fun _ i => sss.length - (intOf i).toNat)
  case atStart => exact ⟨0, key.size + 8 * ne + 24 * sss.length, Nat.zero_le _, rfl, by go_num, by simp [wtt], by omega⟩
  case round =>
    obtain ⟨k, T, hk, rfl, rfl, hT, hTB⟩ := hrel
    have HT : Hid (T = key.size + 8 * ne + 24 * sss.length + wtt (sss.take k)) := hT
    clear hT
    by_cases hlt : k < sss.length
    · obtain ⟨b, off, c, ccap, hao, hc, hss⟩ := HS.out k hlt
      subst hao
      have HSS : Hid (StrsAt w c sss[k]) := hss
      clear hss
      by_cases g1 : 1048576 < sss[k].length
      · go_wp2
        go_ret
        exact ⟨.no rfl (fun h => by cases h), rfl⟩
      have e1 : decide ((1048576 : Int) < (sss[k].length : Int)) = false := by rw [decide_eq_false_iff_not]; omega
      by_cases g2 : 1048576 < T + 16 * sss[k].length
      · go_wp2
        go_ret
        exact ⟨.no rfl (fun h => by cases h), rfl⟩
      have e2 : decide ((1048576 : Int) < (T : Int) + 16 * (sss[k].length : Int)) = false := by rw [decide_eq_false_iff_not]; omega
      go_wp2
      go_loop [7, 10] (fun t i => ∃ j T2 : Nat, j ≤ sss[k].length ∧ i = .int .i64 j ∧ t = .int .i64 T2 ∧ T2 = T + 16 * sss[k].length + wt (sss[k].take j) ∧ T2 ≤ 1048576) (fun _ i => sss[k].length - (intOf i).toNat)
      case atStart => exact ⟨0, T + 16 * sss[k].length, Nat.zero_le _, rfl, by go_num, by simp [wt], by omega⟩
      case round =>
        obtain ⟨j, T2, hj, rfl, rfl, hT2, hT2B⟩ := hrel
        have HT2 : Hid (T2 = T + 16 * sss[k].length + wt (sss[k].take j)) := hT2
        clear hT2
        by_cases hjl : j < sss[k].length
        · obtain ⟨cb, co, hao1, hc1⟩ := HSS.out j hjl
          subst hao1
          by_cases g3 : 1048576 < sss[k][j].size
          · go_wp2
            go_ret
            exact ⟨.no rfl (fun h => by cases h), rfl⟩
          have e3 : decide ((1048576 : Int) < (sss[k][j].size : Int)) = false := by rw [decide_eq_false_iff_not]; omega
          by_cases g4 : 1048576 < T2 + sss[k][j].size
          · go_wp2
            go_ret
            exact ⟨.no rfl (fun h => by cases h), rfl⟩
          have e4 : decide ((1048576 : Int) < (T2 : Int) + (sss[k][j].size : Int)) = false := by rw [decide_eq_false_iff_not]; omega
          go_wp2
          go_round
          case rel => exact ⟨j + 1, T2 + sss[k][j].size, by omega, by go_num, by go_num, by rw [wt_step hjl, HT2.out]; omega, by omega⟩
          case measure => simp [intOf]; omega
        · go_wp2
          go_round
          case rel =>
            refine ⟨k + 1, T2, by omega, by go_num, rfl, ?_, hT2B⟩
            have := HT2.out
            rw [List.take_of_length_le (by omega)] at this
            rw [wtt_step hlt, this, HT.out]; omega
          case measure => simp [intOf]; omega
    · go_wp2
      go_ret
      refine ⟨.yes rfl (fun _ => ?_), rfl⟩
      have := HT.out
      rw [List.take_of_length_le (by omega)] at this
      omega
end Go.Proofs.Qxb6619794a
