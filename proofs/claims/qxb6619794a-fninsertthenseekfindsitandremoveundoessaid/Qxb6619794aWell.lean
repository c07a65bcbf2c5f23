import Derived.Test.Qxb6619794aFlat
namespace Go.Proofs.Qxb6619794a
open Go.RowKit

set_option maxHeartbeats 1000000 in
theorem wellFormed_any (ao : Option Addr) (cap : Nat) (sss : List (List ByteArray)) (hl : sss.length ≤ 2000000) (hb : ∀ ss ∈ sss, ∀ s ∈ ss, s.size ≤ 2000000) (w : World) (hs : RowsAt w ao sss) :
    Calls Try.prog 10 #[.slice ao sss.length cap] w fun e w' => ∃ b, e = .returned (.bool b) ∧ (b = true ↔ WF sss) ∧ Still w w' := by
  have HS : Hid (RowsAt w ao sss) := hs
  have HB : Hid (∀ ss ∈ sss, ∀ s ∈ ss, s.size ≤ 2000000) := hb
  clear hs hb
  go_enter Try.func10, Try.ntmps10
  go_wp2
  go_loopw [3] (fun i wr => ∃ k : Nat, k ≤ sss.length ∧ i = .int .i64 k ∧ (∀ ci (h : ci < sss.length), ci < k → OkChunk sss ci h) ∧ Still w wr) (fun i _ => sss.length - (intOf i).toNat)
  case atStart => exact ⟨0, Nat.zero_le _, rfl, fun _ _ h => absurd h (Nat.not_lt_zero _), Still.refl _⟩
  case round =>
    obtain ⟨k, hk, rfl, hok, hw1⟩ := hrel
    have HOK : Hid (∀ ci (h : ci < sss.length), ci < k → OkChunk sss ci h) := hok
    clear hok
    by_cases hlt : k < sss.length
    · obtain ⟨b, off, c, ccap, hao, hc0, hss⟩ := HS.out k hlt
      subst hao
      have hc := hw1.cell hc0
      have HSS : Hid (StrsAt w c sss[k]) := hss
      clear hss
      by_cases h0 : sss[k].length = 0
      · have hb0 : ((sss[k].length : Int) == 0) = true := by simp [h0]
        have H0 : Hid (sss[k].length = 0) := h0
        clear h0
        go_wp2
        go_ret
        exact ⟨false, rfl, ⟨fun h => by simp at h, fun h => by have := (h k hlt).1; have := H0.out; omega⟩, hw1⟩
      have hb0 : ((sss[k].length : Int) == 0) = false := by rw [beq_eq_false_iff_ne]; omega
      have h0' : 0 < sss[k].length := by omega
      clear h0
      by_cases h512 : 512 < sss[k].length
      · go_wp2
        go_ret
        exact ⟨false, rfl, ⟨fun h => by simp at h, fun h => by have := (h k hlt).2.1; omega⟩, hw1⟩
      have h512b : decide ((512 : Int) < (sss[k].length : Int)) = false := by rw [decide_eq_false_iff_not]; omega
      go_wp2
      go_loopw [5] (fun i wr => ∃ m : Nat, 1 ≤ m ∧ m ≤ sss[k].length ∧ i = .int .i64 m ∧ (∀ j (h : j + 1 < sss[k].length), j + 1 < m → ltB sss[k][j] sss[k][j + 1] = true) ∧ Still w wr) (fun i _ => sss[k].length - (intOf i).toNat)
      case atStart => exact ⟨1, Nat.le_refl _, h0', rfl, fun j _ h => by omega, hw1⟩
      case round =>
        obtain ⟨m, hm1, hm2, rfl, hasc, hw2⟩ := hrel
        have hc := hw2.cell hc0
        have HASC : Hid (∀ j (h : j + 1 < sss[k].length), j + 1 < m → ltB sss[k][j] sss[k][j + 1] = true) := hasc
        clear hasc
        by_cases hml : m < sss[k].length
        · obtain ⟨m0, hm0⟩ : ∃ m0, m = m0 + 1 := ⟨m - 1, by omega⟩
          have HM : Hid (m = m0 + 1) := hm0
          have hm0l : m0 < sss[k].length := by omega
          obtain ⟨cb, co, hao1, hc1⟩ := HSS.out.still hw2 m0 hm0l
          subst hao1
          obtain ⟨cb', co', hao1, hc2⟩ := HSS.out.still hw2 m hml
          simp only [Option.some.injEq, Addr.mk.injEq, and_true] at hao1
          obtain ⟨rfl, rfl⟩ := hao1
          have hz1 : sss[k][m0].size ≤ 2000000 := HB.out _ (List.getElem_mem hlt) _ (List.getElem_mem _)
          have hz2 : sss[k][m].size ≤ 2000000 := HB.out _ (List.getElem_mem hlt) _ (List.getElem_mem _)
          have hwr := wrap_pred hm0 (by omega)
          have hx1 : (m0 : Int) < (sss[k].length : Int) := by omega
          have hx2 : (m : Int) < (sss[k].length : Int) := by omega
          clear hm0
          cases hq : ltB sss[k][m0] sss[k][m]
          · go_wp2
            go_quiet ((go_at_call 35; exact Calls.quiet_of (less_any _ _ hz1 hz2 _)))
            go_wp2
            go_ret
            exact ⟨false, rfl, ⟨fun h => by simp at h, fun h => by have e := HM.out; subst e; have := (h k hlt).2.2.1 m0 hml; rw [hq] at this; cases this⟩, hw2.drewN _⟩
          · go_wp2
            go_quiet ((go_at_call 35; exact Calls.quiet_of (less_any _ _ hz1 hz2 _)))
            go_wp2
            go_roundw
            case rel => 
              refine ⟨m + 1, by omega, by omega, by go_num, fun j h hj => ?_, hw2.drewN _⟩
              have e := HM.out
              by_cases hjm : j = m0
              · subst hjm; subst e; exact hq
              · exact HASC.out j h (by omega)
            case measure => simp [intOf]; omega
        · have hml' : m = sss[k].length := by omega
          subst hml'
          have hA : Asc sss[k] := fun j h => HASC.out j h h
          have HA : Hid (Asc sss[k]) := hA
          clear hA
          by_cases hk0 : k = 0
          · subst hk0
            go_wp2
            go_roundw
            case rel =>
              refine ⟨1, by omega, by go_num, fun ci h hci => ?_, hw2⟩
              have : ci = 0 := by omega
              subst this
              exact ⟨h0', by omega, HA.out, fun p hp => by omega⟩
            case measure => simp [intOf]; omega
          · obtain ⟨p, hpk⟩ : ∃ p, k = p + 1 := ⟨k - 1, by omega⟩
            have HP : Hid (k = p + 1) := hpk
            have hwr := wrap_pred hpk (by omega)
            have hpl0 : p < sss.length := by omega
            obtain ⟨pb, poff, pc, pcap, hao2, hpc, hpss⟩ := HS.out.still hw2 p hpl0
            simp only [Option.some.injEq, Addr.mk.injEq, and_true] at hao2
            obtain ⟨rfl, rfl⟩ := hao2
            have hpl := (HOK.out p (by omega) (by omega)).1
            obtain ⟨cb, co, hao1, hc1⟩ := HSS.out.still hw2 0 h0'
            rw [Nat.add_zero] at hc1
            subst hao1
            obtain ⟨lp, hlp⟩ : ∃ lp, sss[p].length = lp + 1 := ⟨sss[p].length - 1, by omega⟩
            have hpl512 := (HOK.out p (by omega) (by omega)).2.1
            have HLP : Hid (sss[p].length = lp + 1) := hlp
            have hwr2 := wrap_pred hlp (by omega)
            have hx3 : lp < sss[p].length := by omega
            obtain ⟨pb2, po2, hao3, hc3⟩ := hpss lp hx3
            subst hao3
            clear hpss
            have hx1 : (lp : Int) < (sss[p].length : Int) := by omega
            have hx2 : (0 : Int) < (sss[k].length : Int) := by omega
            have hkp : (p : Int) < (sss.length : Int) := by omega
            have hz1 : sss[k][0].size ≤ 2000000 := HB.out _ (List.getElem_mem hlt) _ (List.getElem_mem _)
            have hz2 : sss[p][lp].size ≤ 2000000 := HB.out _ (List.getElem_mem _) _ (List.getElem_mem _)
            have hk1 : (0 : Int) < (k : Int) := by omega
            have elp : sss[p].length - 1 = lp := by omega
            have ELP : Hid (sss[p].length - 1 = lp) := elp
            clear hlp hpk elp
            cases hq : ltB sss[p][lp] sss[k][0]
            · go_wp2
              go_quiet ((go_at_call 35; exact Calls.quiet_of (less_any _ _ hz2 hz1 _)))
              go_wp2
              go_ret
              refine ⟨false, rfl, ⟨fun h => by simp at h, fun h => ?_⟩, hw2.drewN _⟩
              have := (h k hlt).2.2.2 p HP.out.symm (by omega) h0'
              simp only [ELP.out] at this
              rw [hq] at this; cases this
            · go_wp2
              go_quiet ((go_at_call 35; exact Calls.quiet_of (less_any _ _ hz2 hz1 _)))
              go_wp2
              go_roundw
              case rel =>
                refine ⟨k + 1, by omega, by go_num, fun ci h hci => ?_, hw2.drewN _⟩
                by_cases hck : ci = k
                · subst hck
                  refine ⟨h0', by omega, HA.out, fun p' hp' h1 h2 => ?_⟩
                  have : p' = p := by have := HP.out; omega
                  subst this
                  simp only [ELP.out]
                  exact hq
                · exact HOK.out ci h (by omega)
              case measure => simp [intOf]; omega
    · go_wp2
      go_ret
      exact ⟨true, rfl, ⟨fun _ ci h => HOK.out ci h (by omega), fun _ => rfl⟩, hw1⟩
end Go.Proofs.Qxb6619794a
