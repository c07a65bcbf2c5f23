import Derived.Test.Qxb6619794aKin3
namespace Go.Proofs.Qxb6619794a
open Go.RowKit

set_option maxHeartbeats 1000000 in
/-- zzEqualStrings where the two are the same. -/
theorem equal_same (ao bo : Option Addr) (acap bcap : Nat) (ss : List ByteArray) (hl : ss.length ≤ 2000000) (w : World) (ha : StrsAt w ao ss) (hb : StrsAt w bo ss) :
    Calls Try.prog 23 #[.slice ao ss.length acap, .slice bo ss.length bcap] w fun e w' => e = .returned (.bool true) ∧ Still w w' := by
  have HA : Hid (StrsAt w ao ss) := ha
  have HB : Hid (StrsAt w bo ss) := hb
  clear ha hb
  go_enter Try.func23, Try.ntmps23
  go_wp2
  go_loopw [5] (fun i wr => ∃ k : Nat, k ≤ ss.length ∧ i = .int .i64 k ∧ Still w wr) (fun i _ => ss.length - (intOf i).toNat)
  case atStart => exact ⟨0, Nat.zero_le _, rfl, Still.refl _⟩
  case round =>
    obtain ⟨k, hk, rfl, hs⟩ := hrel
    by_cases hlt : k < ss.length
    · obtain ⟨b, off, hao, hc⟩ := HA.out.still hs k hlt
      subst hao
      obtain ⟨b2, off2, hbo, hc2⟩ := HB.out.still hs k hlt
      subst hbo
      have hx : (k : Int) < (ss.length : Int) := by omega
      go_wp2
      go_quiet (fail)
      go_wp2
      go_roundw
      case rel => exact ⟨k + 1, by omega, by go_num, hs.drewN _⟩
      case measure => simp [intOf]; omega
    · go_wp2
      go_ret
      exact ⟨rfl, hs⟩

theorem others_step {es : List Int} {ep : Int} {k : Nat} (h : k < es.length) : others (es.take (k + 1)) ep = others (es.take k) ep + (if (es[k] != ep) = true then 1 else 0) := by
  unfold others
  rw [take_snoc _ _ h, List.filter_append, List.length_append]
  by_cases hh : (es[k] != ep) = true <;> simp [hh]
theorem others_le (es : List Int) (ep : Int) : others es ep ≤ es.length := List.length_filter_le _ _

set_option maxHeartbeats 1000000 in
theorem countOther_any (eo : Option Addr) (ec : Nat) (es : List Int) (ep : Int) (hl : es.length ≤ 2000000) (w : World) (hs : NumsAt w eo es) :
    Calls Try.prog 25 #[.slice eo es.length ec, .int .u64 ep] w fun e w' => e = .returned (.int .i64 (others es ep)) ∧ w' = w := by
  have HS : Hid (NumsAt w eo es) := hs
  clear hs
  go_enter Try.func25, Try.ntmps25
  go_wp2
  go_loop [5, 6] (fun c i => ∃ k : Nat, k ≤ es.length ∧ i = .int .i64 k ∧ c = .int .i64 (others (es.take k) ep)) (fun _ i => es.length - (intOf i).toNat)
  case atStart => exact ⟨0, Nat.zero_le _, rfl, rfl⟩
  case round =>
    obtain ⟨k, hk, rfl, rfl⟩ := hrel
    by_cases hlt : k < es.length
    · obtain ⟨b, off, hao, hc⟩ := HS.out k hlt
      subst hao
      have h1 := others_le (es.take k) ep
      have h2 : (es.take k).length ≤ k := List.length_take_le _ _
      have HST : Hid (others (es.take (k + 1)) ep = others (es.take k) ep + (if (es[k] != ep) = true then 1 else 0)) := others_step hlt
      cases hq : (es[k] != ep)
      all_goals
        go_wp2
        go_round
        case rel => exact ⟨k + 1, by omega, by go_num, by rw [HST.out, hq]; go_num⟩
        case measure => simp [intOf]; omega
    · go_wp2
      go_ret
      exact ⟨ret_int (by rw [List.take_of_length_le (by omega)]), rfl⟩

set_option maxHeartbeats 1000000 in
theorem zzepoch (B kb : Nat) (cs : List Ch) (ep : Int) (sh : Bool) (w : World) (hk : KAt B w kb cs ep sh) :
    Calls Try.prog 19 #[.pointer (some ⟨kb, 0, none⟩)] w fun e w' => e = .returned (.int .u64 ep) ∧ w' = w := by
  obtain ⟨_, _, _, _, v, h, _⟩ := hk
  have hc : w.cell? ⟨kb, 1, none⟩ = some (.int .u64 ep) := by rw [h.cell]; rfl
  clear h
  go_enter Try.func19, Try.ntmps19
  go_wp2
  go_ret
  exact ⟨rfl, rfl⟩
set_option maxHeartbeats 1000000 in
theorem zzsharing (B kb : Nat) (cs : List Ch) (ep : Int) (sh : Bool) (w : World) (hk : KAt B w kb cs ep sh) :
    Calls Try.prog 20 #[.pointer (some ⟨kb, 0, none⟩)] w fun e w' => e = .returned (.bool sh) ∧ w' = w := by
  obtain ⟨_, _, _, _, v, h, _⟩ := hk
  have hc : w.cell? ⟨kb, 2, none⟩ = some (.bool sh) := by rw [h.cell]; rfl
  clear h
  go_enter Try.func20, Try.ntmps20
  go_wp2
  go_ret
  exact ⟨rfl, rfl⟩
set_option maxHeartbeats 1000000 in
theorem zznum (B kb : Nat) (cs : List Ch) (ep : Int) (sh : Bool) (w : World) (hk : KAt B w kb cs ep sh) :
    Calls Try.prog 38 #[.pointer (some ⟨kb, 0, none⟩)] w fun e w' => e = .returned (.int .i64 cs.length) ∧ w' = w := by
  obtain ⟨co, cap, hc, _⟩ := hk.kview
  rw [List.length_map] at hc
  go_enter Try.func38, Try.ntmps38
  go_wp2
  go_ret
  exact ⟨rfl, rfl⟩
set_option maxHeartbeats 1000000 in
theorem zzchunkKeys (B kb : Nat) (cs : List Ch) (ep : Int) (sh : Bool) (ci : Nat) (w : World) (hk : KAt B w kb cs ep sh) (hci : ci < cs.length) :
    Calls Try.prog 36 #[.pointer (some ⟨kb, 0, none⟩), .int .i64 ci] w fun e w' => e = .returned (.slice (some ⟨cs[ci].r, 0, none⟩) cs[ci].ss.length cs[ci].cap) ∧ w' = w := by
  obtain ⟨cb, ccap, hB, hg, hkb⟩ := hk.arr (by omega)
  have hch := hk.2.1 cs[ci] (List.getElem_mem hci)
  have hc1 : w.cell? ⟨kb, 0, none⟩ = some (.slice (some ⟨cb, 0, none⟩) cs.length ccap) := by rw [hkb.cell]; rfl
  have hc4 : w.cell? ⟨cb, ci, none⟩ = some (.pointer (some ⟨cs[ci].p, 0, none⟩)) := by
    rw [hg.cell (by rw [cptrs_length]; exact hci), cptrs_get hci]
  have hc5 : w.cell? ⟨cs[ci].p, 0, none⟩ = some (.slice (some ⟨cs[ci].r, 0, none⟩) cs[ci].ss.length cs[ci].cap) := by rw [hch.2.2.1.cell]; rfl
  have hx1 : (ci : Int) < (cs.length : Int) := by omega
  clear hk hg hkb hch
  generalize cs[ci] = c at *
  go_enter Try.func36, Try.ntmps36
  go_wp2
  go_ret
  exact ⟨rfl, rfl⟩
set_option maxHeartbeats 1000000 in
theorem zzchunkEpoch (B kb : Nat) (cs : List Ch) (ep : Int) (sh : Bool) (ci : Nat) (w : World) (hk : KAt B w kb cs ep sh) (hci : ci < cs.length) :
    Calls Try.prog 39 #[.pointer (some ⟨kb, 0, none⟩), .int .i64 ci] w fun e w' => e = .returned (.int .u64 cs[ci].e) ∧ w' = w := by
  obtain ⟨cb, ccap, hB, hg, hkb⟩ := hk.arr (by omega)
  have hch := hk.2.1 cs[ci] (List.getElem_mem hci)
  have hc1 : w.cell? ⟨kb, 0, none⟩ = some (.slice (some ⟨cb, 0, none⟩) cs.length ccap) := by rw [hkb.cell]; rfl
  have hc4 : w.cell? ⟨cb, ci, none⟩ = some (.pointer (some ⟨cs[ci].p, 0, none⟩)) := by
    rw [hg.cell (by rw [cptrs_length]; exact hci), cptrs_get hci]
  have hc6 : w.cell? ⟨cs[ci].p, 1, none⟩ = some (.int .u64 cs[ci].e) := by rw [hch.2.2.1.cell]; rfl
  have hx1 : (ci : Int) < (cs.length : Int) := by omega
  clear hk hg hkb hch
  generalize cs[ci] = c at *
  go_enter Try.func39, Try.ntmps39
  go_wp2
  go_ret
  exact ⟨rfl, rfl⟩
end Go.Proofs.Qxb6619794a
