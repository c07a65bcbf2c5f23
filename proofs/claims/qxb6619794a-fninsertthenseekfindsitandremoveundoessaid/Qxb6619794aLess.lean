import Derived.Test.Qxb6619794aRows
import Derived.Test.Qxb6619794aBase
import Derived.WalkKit
import Derived.WalkSpells
import Derived.WalkLawsBesides
import Derived.Deep.QuietTactic
import Derived.BigQuiet
namespace Go.Proofs.Qxb6619794a
open Go.RowKit

set_option maxHeartbeats 400000 in
theorem less_any (a b : ByteArray) (ha : a.size ≤ 2000000) (hb : b.size ≤ 2000000) (w : World) :
    Calls Try.prog 35 #[.string a, .string b] w fun e w' => e = .returned (.bool (ltB a b)) ∧ ∃ n, w' = w.drewN n := by
  by_cases hab : b.size < a.size
  · go_enter Try.func35, Try.ntmps35
    go_wp2
    go_loopw [6] (fun i wr => ∃ k : Nat, k ≤ b.size ∧ i = .int .i64 k ∧ (bs a).take k = (bs b).take k ∧ ∃ n, wr = w.drewN n) (fun i _ => b.size - (intOf i).toNat)
    case atStart => exact ⟨0, Nat.zero_le _, rfl, rfl, 0, rfl⟩
    case round =>
      obtain ⟨k, hk, rfl, htk, n, rfl⟩ := hrel
      have HT : Hid ((bs a).take k = (bs b).take k) := htk
      clear htk
      by_cases hlt : k < b.size
      · have hka : k < a.size := by omega
        have hkb : k < b.size := hlt
        by_cases he : a[k] = b[k]
        · have he2 : ((a[k].toNat : Int) != (b[k].toNat : Int)) = false := by simp [he]
          have HE : Hid (a[k] = b[k]) := he
          clear he
          go_wp2
          go_quiet (fail)
          go_wp2
          go_roundw
          case rel => exact ⟨k + 1, by omega, by go_num, take_step hka hkb HT.out HE.out, _, rfl⟩
          case measure => simp [intOf]; omega
        · have he2 : ((a[k].toNat : Int) != (b[k].toNat : Int)) = true := by
            rw [bne_iff_ne]; intro h; apply he; apply UInt8.toNat_inj.1; omega
          have HE : Hid (a[k] ≠ b[k]) := he
          clear he
          go_wp2
          go_quiet (fail)
          go_wp2
          go_quiet (fail)
          go_wp2
          go_ret
          exact ⟨ret_bool (lt_at hka hkb HT.out HE.out), still3 _ _ _ _⟩
      · go_wp2
        go_ret
        exact ⟨ret_bool (lt_end (k := k) (by omega) (by omega) (by omega) HT.out), _, rfl⟩
  · go_enter Try.func35, Try.ntmps35
    go_wp2
    go_loopw [6] (fun i wr => ∃ k : Nat, k ≤ a.size ∧ i = .int .i64 k ∧ (bs a).take k = (bs b).take k ∧ ∃ n, wr = w.drewN n) (fun i _ => a.size - (intOf i).toNat)
    case atStart => exact ⟨0, Nat.zero_le _, rfl, rfl, 0, rfl⟩
    case round =>
      obtain ⟨k, hk, rfl, htk, n, rfl⟩ := hrel
      have HT : Hid ((bs a).take k = (bs b).take k) := htk
      clear htk
      by_cases hlt : k < a.size
      · have hkb : k < b.size := by omega
        have hka : k < a.size := hlt
        by_cases he : a[k] = b[k]
        · have he2 : ((a[k].toNat : Int) != (b[k].toNat : Int)) = false := by simp [he]
          have HE : Hid (a[k] = b[k]) := he
          clear he
          go_wp2
          go_quiet (fail)
          go_wp2
          go_roundw
          case rel => exact ⟨k + 1, by omega, by go_num, take_step hka hkb HT.out HE.out, _, rfl⟩
          case measure => simp [intOf]; omega
        · have he2 : ((a[k].toNat : Int) != (b[k].toNat : Int)) = true := by
            rw [bne_iff_ne]; intro h; apply he; apply UInt8.toNat_inj.1; omega
          have HE : Hid (a[k] ≠ b[k]) := he
          clear he
          go_wp2
          go_quiet (fail)
          go_wp2
          go_quiet (fail)
          go_wp2
          go_ret
          exact ⟨ret_bool (lt_at hka hkb HT.out HE.out), still3 _ _ _ _⟩
      · go_wp2
        go_ret
        exact ⟨ret_bool (lt_end (k := k) (by omega) (by omega) (by omega) HT.out), _, rfl⟩
end Go.Proofs.Qxb6619794a
