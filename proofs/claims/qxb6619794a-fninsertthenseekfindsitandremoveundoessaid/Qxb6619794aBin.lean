import Derived.Test.Qxb6619794aCmp
namespace Go.Proofs.Qxb6619794a
open Go.RowKit

set_option maxHeartbeats 1000000 in
theorem bin43 (ao : Option Addr) (cap : Nat) (ss : List ByteArray) (key : ByteArray) (hl : ss.length ≤ 2000000) (hA : Asc ss) (w : World) (hs : StrsAt w ao ss) :
    Calls Try.prog 43 #[.slice ao ss.length cap, .string key] w fun e w' => e = .returned (.tuple #[.int .i64 (below ss key), .bool (hasB ss key)]) ∧ w' = w := by
  have HS : Hid (StrsAt w ao ss) := hs
  have HA : Hid (Asc ss) := hA
  clear hs hA
  go_enter Try.func43, Try.ntmps43
  go_wp2
  go_loop [7, 8] (fun i j => ∃ l r : Nat, l ≤ r ∧ r ≤ ss.length ∧ i = .int .i64 l ∧ j = .int .i64 r ∧ (∀ t (h : t < ss.length), t < l → ltB ss[t] key = true) ∧ (∀ t (h : t < ss.length), r ≤ t → ltB ss[t] key = false)) (fun i j => (intOf j).toNat - (intOf i).toNat)
  case atStart => exact ⟨0, ss.length, Nat.zero_le _, Nat.le_refl _, rfl, rfl, fun t h h0 => by omega, fun t h h0 => by omega⟩
  case round =>
    obtain ⟨l, r, hlr, hr, rfl, rfl, h1, h2⟩ := hrel
    have H1 : Hid (∀ t (h : t < ss.length), t < l → ltB ss[t] key = true) := h1
    have H2 : Hid (∀ t (h : t < ss.length), r ≤ t → ltB ss[t] key = false) := h2
    clear h1 h2
    by_cases hlt : l < r
    · obtain ⟨m, hm, hlm, hmr⟩ := mid_nat l r hlt
      have hml : m < ss.length := by omega
      obtain ⟨b, off, hao, hc⟩ := HS.out m hml
      subst hao
      have hx1 : (m : Int) < (ss.length : Int) := by omega
      have hx0 : (0 : Int) ≤ (m : Int) := by omega
      cases hq : ltB ss[m] key
      · go_wp2_with (go_at_call 53; refine (cmpLess _ _ _).mono ?_; rintro e w' ⟨rfl, rfl⟩)
        go_round
        case rel =>
          refine ⟨l, m, hlm, by omega, rfl, rfl, H1.out, fun t h ht => ?_⟩
          rcases Nat.lt_or_ge m t with g | g
          · cases hk : ltB ss[t] key
            · rfl
            · have := ltB_trans (HA.out.lt m t g h) hk; rw [hq] at this; cases this
          · have : t = m := by omega
            subst this; exact hq
        case measure => simp [intOf]; omega
      · go_wp2_with (go_at_call 53; refine (cmpLess _ _ _).mono ?_; rintro e w' ⟨rfl, rfl⟩)
        go_round
        case rel =>
          refine ⟨m + 1, r, by omega, hr, by go_num, rfl, fun t h ht => ?_, H2.out⟩
          rcases Nat.lt_or_ge t m with g | g
          · exact ltB_trans (HA.out.lt t m g hml) hq
          · have : t = m := by omega
            subst this; exact hq
        case measure => simp [intOf]; omega
    · have hle : l = r := by omega
      subst hle
      have HBE := below_of hr H1.out H2.out
      have HB : Hid (below ss key = l) := HBE
      clear HBE
      by_cases hln : l < ss.length
      · obtain ⟨b, off, hao, hc⟩ := HS.out l hln
        subst hao
        have hx1 : (l : Int) < (ss.length : Int) := by omega
        have HE : Hid (hasB ss key = (ss[l].toList == key.toList)) := hasB_at H1.out HA.out hln (H2.out l hln (Nat.le_refl _))
        go_wp2_with (go_at_call 54; refine (isNaN54 _ _).mono ?_; rintro e w' ⟨rfl, rfl⟩)
        all_goals
          go_ret2
          exact ⟨by rw [HB.out, HE.out]; simp_all, rfl⟩
      · have hx1 : decide ((l : Int) < (ss.length : Int)) = false := by rw [decide_eq_false_iff_not]; omega
        have HE : Hid (hasB ss key = false) := hasB_none (fun t h => H1.out t h (by omega))
        go_wp2
        go_ret2
        exact ⟨by rw [HB.out, HE.out]; rfl, rfl⟩
end Go.Proofs.Qxb6619794a
