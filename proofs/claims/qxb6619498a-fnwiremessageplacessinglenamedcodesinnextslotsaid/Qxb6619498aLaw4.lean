import Derived.Test.Qxb6619498aBy9
namespace Go.Proofs.Qxb6619498a
open Go.RowKit

set_option maxHeartbeats 8000000 in
set_option maxRecDepth 100000 in
theorem law4 (n rd ch us r : Int) (ao : Option Addr) (cap : Nat) (rows : List RowD) (po : Option Addr) (pcap : Nat) (ps : List (Int × Int)) (w : World) (hs : RowsU w ao rows) (hp : RawAt w po ps) :
    Calls Try.prog 4 #[.int .i64 n, .int .i64 rd, .slice ao rows.length cap, .int .i64 ch, .int .i64 us, .int .i64 r, .slice po ps.length pcap] w fun e w' => e = .returned (.bool true) ∧ Below w.heap.size w w' := by
  have HS : Hid (RowsU w ao rows) := hs
  have HPS : Hid (RawAt w po ps) := hp
  clear hs hp
  go_enter Try.func4, Try.ntmps4
  go_wp2_with fail
  refine (bytes9 n rd ch us r ao cap rows po ps.length pcap w HS.out).mono ?_
  rintro e w' ⟨⟨b, rfl⟩, hww⟩; subst w'
  cases b
  · go_wp2_with fail
    go_ret
    exact ⟨rfl, Below.refl _ _⟩
  by_cases hbig : (65536 : Int) < (rows.length : Int)
  · have hbd : decide ((65536 : Int) < (rows.length : Int)) = true := by rw [decide_eq_true_iff]; exact hbig
    go_wp2_with fail
    go_ret
    exact ⟨rfl, Below.refl _ _⟩
  have hbd : decide ((65536 : Int) < (rows.length : Int)) = false := by rw [decide_eq_false_iff_not]; exact hbig
  by_cases hbig2 : (65536 : Int) < (ps.length : Int)
  · have hbd2 : decide ((65536 : Int) < (ps.length : Int)) = true := by rw [decide_eq_true_iff]; exact hbig2
    go_wp2_with fail
    go_ret
    exact ⟨rfl, Below.refl _ _⟩
  have hbd2 : decide ((65536 : Int) < (ps.length : Int)) = false := by rw [decide_eq_false_iff_not]; exact hbig2
  have hl : rows.length ≤ 65536 := by omega
  have hpl : ps.length ≤ 65536 := by omega
  obtain ⟨a0, ha0⟩ : ∃ a0, IntKind.i64.wrap (16 * (ps.length : Int)) = a0 := ⟨_, rfl⟩
  by_cases hbig3 : (1048576 : Int) < a0
  · have hbd3 : decide ((1048576 : Int) < a0) = true := by rw [decide_eq_true_iff]; exact hbig3
    go_wp2_with fail
    go_ret
    exact ⟨rfl, Below.refl _ _⟩
  have hbd3 : decide ((1048576 : Int) < a0) = false := by rw [decide_eq_false_iff_not]; exact hbig3
  clear hbig hbig2 hbig3
  go_wp2_with fail
  clear ha0
  go_loop [15, 16] (fun z i => ∃ (k : Nat) (y : Int), k ≤ rows.length ∧ i = .int .i64 k ∧ z = .int .i64 y) (fun _ i => rows.length - (intOf i).toNat)
  case atStart => exact ⟨0, _, Nat.zero_le _, rfl, rfl⟩
  case round =>
    obtain ⟨k, y, hk, rfl, rfl⟩ := hrel
    by_cases hlt : k < rows.length
    · obtain ⟨b, off, rfl, hc2, _⟩ := HS.out k hlt
      have hx1 : (k : Int) < (rows.length : Int) := by omega
      generalize rows[k] = c at *
      obtain ⟨wao, wcap, ws⟩ := c
      simp only at hc2
      by_cases h1 : (1048576 : Int) < (ws.length : Int)
      · have hd1 : decide ((1048576 : Int) < (ws.length : Int)) = true := by rw [decide_eq_true_iff]; exact h1
        go_wp2
        go_ret
        exact ⟨rfl, Below.refl _ _⟩
      have hd1 : decide ((1048576 : Int) < (ws.length : Int)) = false := by rw [decide_eq_false_iff_not]; exact h1
      obtain ⟨a1, ha1⟩ : ∃ a1, IntKind.i64.wrap (4 * (ws.length : Int)) = a1 := ⟨_, rfl⟩
      obtain ⟨a2, ha2⟩ : ∃ a2, IntKind.i64.wrap (24 + a1) = a2 := ⟨_, rfl⟩
      obtain ⟨y2, hy2⟩ : ∃ y2, IntKind.i64.wrap (y + a2) = y2 := ⟨_, rfl⟩
      by_cases h2 : (1048576 : Int) < y2
      · have hd2 : decide ((1048576 : Int) < y2) = true := by rw [decide_eq_true_iff]; exact h2
        go_wp2
        go_ret
        exact ⟨rfl, Below.refl _ _⟩
      have hd2 : decide ((1048576 : Int) < y2) = false := by rw [decide_eq_false_iff_not]; exact h2
      go_wp2
      go_round
      case rel => exact ⟨k + 1, _, by omega, by go_num, rfl⟩
      case measure => simp [intOf]; omega
    by_cases hn1 : n < 1
    · have hnd : decide (n < 1) = true := by rw [decide_eq_true_iff]; exact hn1
      go_wp2
      go_ret
      exact ⟨rfl, Below.refl _ _⟩
    have hnd : decide (n < 1) = false := by rw [decide_eq_false_iff_not]; exact hn1
    by_cases hn2 : 1024 < n
    · have hnd2 : decide (1024 < n) = true := by rw [decide_eq_true_iff]; exact hn2
      go_wp2
      go_ret
      exact ⟨rfl, Below.refl _ _⟩
    have hnd2 : decide (1024 < n) = false := by rw [decide_eq_false_iff_not]; exact hn2
    obtain ⟨N, rfl⟩ : ∃ N : Nat, n = (N : Int) := ⟨n.toNat, by omega⟩
    have hN1 : 1 ≤ N := by omega
    have hN2 : N ≤ 1024 := by omega
    obtain ⟨wd, hwd⟩ : ∃ wd : Nat, wd = 64 * N := ⟨_, rfl⟩
    have hm : IntKind.i64.wrap (64 * (N : Int)) = (wd : Int) := by
      rw [hwd, show (64 * (N : Int)) = ((64 * N : Nat) : Int) by omega]; exact wrap_nat _ (by omega)
    have HWD : Hid (wd = 64 * N) := hwd
    have hwd1 : 64 ≤ wd := by omega
    have hwd2 : wd ≤ 65536 := by omega
    clear hn1 hn2 hwd
    go_wp2_with fail
    go_loop [18] (fun i => ∃ k : Nat, k ≤ rows.length ∧ i = .int .i64 k ∧ ∀ c ∈ rows.take k, c.ws.length = wd) (fun i => rows.length - (intOf i).toNat)
    case atStart => exact ⟨0, Nat.zero_le _, rfl, fun c hc => by simp at hc⟩
    case round =>
      obtain ⟨k, hk, rfl, hin⟩ := hrel
      have HIN : Hid (∀ c ∈ rows.take k, c.ws.length = wd) := hin
      clear hin
      by_cases hlt : k < rows.length
      · obtain ⟨b, off, rfl, hc2, _⟩ := HS.out k hlt
        have hx1 : (k : Int) < (rows.length : Int) := by omega
        have HST : Hid (rows[k].ws.length = wd → ∀ c ∈ rows.take (k + 1), c.ws.length = wd) := by
          intro h c hc
          rw [take_snoc _ _ hlt] at hc
          rcases List.mem_append.1 hc with q | q
          · exact HIN.out c q
          · simp at q; subst q; exact h
        generalize rows[k] = c at *
        obtain ⟨wao, wcap, ws⟩ := c
        simp only at hc2 HST
        obtain ⟨wsl, hwsl⟩ : ∃ wsl, ws.length = wsl := ⟨_, rfl⟩
        rw [hwsl] at hc2 HST
        clear hwsl
        by_cases h1 : wsl = wd
        · have hd1 : ((wsl : Int) != (wd : Int)) = false := by simp [h1]
          go_wp2
          go_round
          case rel => exact ⟨k + 1, by omega, by go_num, HST.out h1⟩
          case measure => simp [intOf]; omega
        · have hd1 : ((wsl : Int) != (wd : Int)) = true := by simp; omega
          go_wp2
          go_ret
          exact ⟨rfl, Below.refl _ _⟩
      have hke : k = rows.length := by omega
      have HRW : Hid (∀ c ∈ rows, c.ws.length = wd) := by have := HIN.out; rw [hke, List.take_of_length_le (Nat.le_refl _)] at this; exact this
      clear HIN hke
      by_cases hu1 : us < 0
      · have d1 : decide (us < 0) = true := by rw [decide_eq_true_iff]; exact hu1
        go_wp2
        go_ret
        exact ⟨rfl, Below.refl _ _⟩
      have d1 : decide (us < 0) = false := by rw [decide_eq_false_iff_not]; exact hu1
      by_cases hu2 : (wd : Int) < us
      · have d2 : decide ((wd : Int) < us) = true := by rw [decide_eq_true_iff]; exact hu2
        go_wp2
        go_ret
        exact ⟨rfl, Below.refl _ _⟩
      have d2 : decide ((wd : Int) < us) = false := by rw [decide_eq_false_iff_not]; exact hu2
      obtain ⟨U, rfl⟩ : ∃ U : Nat, us = (U : Int) := ⟨us.toNat, by omega⟩
      by_cases hmod' : U % N ≠ 0
      · have d3 : ((U : Int) % (N : Int) != 0) = true := by
          rw [← Int.natCast_emod]
          simp; omega
        go_wp2
        go_ret
        exact ⟨rfl, Below.refl _ _⟩
      have hmod : U % N = 0 := by omega
      have d3 : ((U : Int) % (N : Int) != 0) = false := by rw [← Int.natCast_emod, hmod]; rfl
      obtain ⟨u, hUu⟩ : ∃ u, u * N = U := ⟨U / N, Nat.div_mul_cancel (Nat.dvd_of_mod_eq_zero hmod)⟩
      have hu64 : u ≤ 64 := by
        have h1 : U ≤ wd := by omega
        rw [← hUu, HWD.out] at h1
        exact Nat.le_of_mul_le_mul_right h1 (by omega)
      have hdiv : (U : Int) / (N : Int) = (u : Int) := by
        rw [← hUu, ← Int.natCast_ediv, Nat.mul_div_cancel _ (by omega)]
      have HUU : Hid (u * N = U) := hUu
      by_cases hch1 : ch < 0
      · have d4 : decide (ch < 0) = true := by rw [decide_eq_true_iff]; exact hch1
        clear hUu hmod hmod'
        go_wp2
        go_ret
        exact ⟨rfl, Below.refl _ _⟩
      have d4 : decide (ch < 0) = false := by rw [decide_eq_false_iff_not]; exact hch1
      by_cases hch2 : (rows.length : Int) < ch
      · have d5 : decide ((rows.length : Int) < ch) = true := by rw [decide_eq_true_iff]; exact hch2
        clear hUu hmod hmod'
        go_wp2
        go_ret
        exact ⟨rfl, Below.refl _ _⟩
      have d5 : decide ((rows.length : Int) < ch) = false := by rw [decide_eq_false_iff_not]; exact hch2
      obtain ⟨c, rfl⟩ : ∃ c : Nat, ch = (c : Int) := ⟨ch.toNat, by omega⟩
      have hcl : c ≤ rows.length := by omega
      clear hUu hmod hmod' hu1 hu2 hch1 hch2
      go_upto_region 28 with fail
      rotate_left 1
      · go_ret
        exact ⟨rfl, Below.refl _ _⟩
      go_cut [133] from 38 (fun s133 wx => s133 = .bool (decide (U = wd ∧ c = rows.length)) ∧ w = wx)
      case first =>
        by_cases hA : U = wd
        · have hAb : ((U : Int) == (wd : Int)) = true := by simp [hA]
          have HA : Hid (U = wd) := hA
          clear hA
          by_cases hB : c = rows.length
          · have hBb : ((c : Int) == (rows.length : Int)) = true := by simp [hB]
            have HB : Hid (c = rows.length) := hB
            clear hB
            go_wp2_with fail
            go_meet
            exact ⟨congrArg Value.bool (decide_eq_true (p := U = wd ∧ c = rows.length) ⟨HA.out, HB.out⟩).symm, rfl⟩
          · have hBb : ((c : Int) == (rows.length : Int)) = false := by simp; omega
            go_wp2_with fail
            go_meet
            exact ⟨congrArg Value.bool (decide_eq_false (p := U = wd ∧ c = rows.length) (fun h => hB h.2)).symm, rfl⟩
        · have hAb : ((U : Int) == (wd : Int)) = false := by simp; omega
          go_wp2_with fail
          go_meet
          exact ⟨congrArg Value.bool (decide_eq_false (p := U = wd ∧ c = rows.length) (fun h => hA h.1)).symm, rfl⟩
      case rest =>
      as_aux_lemma =>
      obtain ⟨rfl, rfl⟩ := hcut
      obtain ⟨bad, hbad⟩ : ∃ bad, decide (U = wd ∧ c = rows.length) = bad := ⟨_, rfl⟩
      have HBAD : Hid (decide (U = wd ∧ c = rows.length) = bad) := hbad
      rw [hbad]
      clear hbad
      rcases Bool.eq_false_or_eq_true bad with rfl | rfl
      · go_wp2
        go_ret
        exact ⟨rfl, Below.refl _ _⟩
      have hUC : ¬ (U = wd ∧ c = rows.length) := of_decide_eq_false HBAD.out
      have HUC : Hid (¬ (U = wd ∧ c = rows.length)) := hUC
      clear hUC d1 d2 d3 d4 d5
      go_wp2_with fail
      go_loop [19] (fun i => ∃ j : Nat, j ≤ ps.length ∧ i = .int .i64 j ∧ RawIn N (ps.take j)) (fun i => ps.length - (intOf i).toNat)
      case atStart => exact ⟨0, Nat.zero_le _, rfl, fun c hc => by simp at hc⟩
      case round =>
        obtain ⟨j, hj, rfl, hin⟩ := hrel
        have HIN2 : Hid (RawIn N (ps.take j)) := hin
        clear hin
        by_cases hjl : j < ps.length
        · obtain ⟨pb, poff, rfl, hp1, hp2⟩ := HPS.out j hjl
          have hy1 : (j : Int) < (ps.length : Int) := by omega
          have HST2 : Hid (0 ≤ ps[j].1 → ps[j].1 < (N : Int) → 1 ≤ ps[j].2 → ps[j].2 ≤ 4294967294 → RawIn N (ps.take (j + 1))) := by
            intro g1 g2 g3 g4 p hp
            rw [take_snoc _ _ hjl] at hp
            rcases List.mem_append.1 hp with q | q
            · exact HIN2.out p q
            · simp at q; subst q; exact ⟨g1, g2, g3, g4⟩
          generalize ps[j] = p at *
          obtain ⟨pl, pv⟩ := p
          simp only at hp1 hp2 HST2
          by_cases g1 : pl < 0
          · have d1 : decide (pl < 0) = true := by rw [decide_eq_true_iff]; exact g1
            go_wp2
            go_ret
            exact ⟨rfl, Below.refl _ _⟩
          have d1 : decide (pl < 0) = false := by rw [decide_eq_false_iff_not]; exact g1
          by_cases g2 : (N : Int) ≤ pl
          · have d2 : decide ((N : Int) ≤ pl) = true := by rw [decide_eq_true_iff]; exact g2
            go_wp2
            go_ret
            exact ⟨rfl, Below.refl _ _⟩
          have d2 : decide ((N : Int) ≤ pl) = false := by rw [decide_eq_false_iff_not]; exact g2
          by_cases g3 : pv < 1
          · have d3 : decide (pv < 1) = true := by rw [decide_eq_true_iff]; exact g3
            go_wp2
            go_ret
            exact ⟨rfl, Below.refl _ _⟩
          have d3 : decide (pv < 1) = false := by rw [decide_eq_false_iff_not]; exact g3
          by_cases g4 : 4294967294 < pv
          · have d4 : decide (4294967294 < pv) = true := by rw [decide_eq_true_iff]; exact g4
            go_wp2
            go_ret
            exact ⟨rfl, Below.refl _ _⟩
          have d4 : decide (4294967294 < pv) = false := by rw [decide_eq_false_iff_not]; exact g4
          go_wp2
          go_round
          case rel => exact ⟨j + 1, by omega, by go_num, HST2.out (by omega) (by omega) (by omega) (by omega)⟩
          case measure => simp [intOf]; omega
        have hje : j = ps.length := by omega
        have HRI : Hid (RawIn N ps) := by have := HIN2.out; rw [hje, List.take_of_length_le (Nat.le_refl _)] at this; exact this
        clear HIN2 hje
        as_aux_lemma =>
        have HRW' : Hid (∀ r ∈ rows, r.ws.length = 64 * N) := by have := HRW.out; rw [HWD.out] at this; exact this
        go_wp2_with fail
        refine (cloneChunks N hN1 hN2 ao cap rows (by omega) HRW'.out w HS.out).mono ?_
        rintro e w1 ⟨ao1, bs1, rfl, hl1, hr1, hcp1, hb1⟩
        have HR1 : Hid ((ao1 = none ∧ rows = []) ∨ ∃ N_1, ao1 = some ⟨N_1, 0, none⟩ ∧ w.heap.size ≤ N_1 ∧ Blk w1 N_1 (partRow N rows.length bs1) 41) := hr1
        have HCP1 : Hid (Copies w.heap.size w1 bs1 rows) := hcp1
        have HL1 : Hid (bs1.length = rows.length) := hl1
        clear hl1 hr1 hcp1
        go_wp2_with fail
        refine (cloneChunks N hN1 hN2 ao cap rows (by omega) HRW'.out w1 (HS.out.below hb1)).mono ?_
        rintro e w2 ⟨ao2, bs2, rfl, hl2, hr2, hcp2, hb2⟩
        have HR2 : Hid ((ao2 = none ∧ rows = []) ∨ ∃ N_1, ao2 = some ⟨N_1, 0, none⟩ ∧ w1.heap.size ≤ N_1 ∧ Blk w2 N_1 (partRow N rows.length bs2) 41) := hr2
        have HCP2 : Hid (Copies w1.heap.size w2 bs2 rows) := hcp2
        have HL2 : Hid (bs2.length = rows.length) := hl2
        have hb02 : Below w.heap.size w w2 := hb1.trans (hb2.mono hb1.size)
        clear hl2 hr2 hcp2
        have H11 : Hid (Calls Try.prog 11 #[.slice po ps.length pcap] w2 fun e w' => RetAdv (natp ps) w2 e w') := by
          have := advParts po pcap (natp ps) (by rw [natp_length]; omega) w2 ((HPS.out.below hb02).ps HRI.out)
          rw [natp_length] at this; exact this
        go_wp2_with fail
        refine Calls.mono H11.out ?_
        rintro e w3 ⟨ao3, cap3, rfl, hpb, hb3⟩
        have HPB : Hid (PartsB w3 ao3 (natp ps)) := hpb
        have hb03 : Below w.heap.size w w3 := hb02.trans (hb3.mono hb02.size)
        clear hpb H11
        have H12 : Hid (Calls Try.prog 12 #[.int .i64 (N : Int), .int .i64 rd, .slice ao2 rows.length rows.length, .int .i64 (c : Int), .int .i64 (U : Int)] w3 fun e w' => RetNW w.heap.size N rd c U bs2 rows w3 e w') := by
          refine newWire w.heap.size N hN1 hN2 rd c U ao2 bs2 rows w3 hb03.size HL2.out (by omega) HRW'.out ?_ ?_
          · rcases HR2.out with h | ⟨N1, h1, _, h2⟩
            · exact .inl h
            · exact .inr ⟨N1, h1, h2.below hb3 h2.lt⟩
          · have := HCP2.out.below hb3
            exact ⟨this.nod, fun b hb => Nat.le_trans hb1.size (this.low b hb), this.blk⟩
        go_wp2_with fail
        refine Calls.mono H12.out ?_
        rintro e w4 ⟨P, v4, rfl, hW4, hb4⟩
        have HW4 : Hid (Wire w.heap.size w4 P N rd v4 bs2 c (u * N) (Fr (64 * N) rows)) := by unfold Hid; rw [HUU.out]; exact hW4
        have hb04 : Below w.heap.size w w4 := hb03.trans (hb4.mono hb03.size)
        obtain ⟨s, hs⟩ : ∃ s : Nat, (r = rd ∧ s = c * 64 + u) ∨ (r ≠ rd ∧ s = 0) := by
          by_cases h : r = rd
          · exact ⟨_, .inl ⟨h, rfl⟩⟩
          · exact ⟨_, .inr ⟨h, rfl⟩⟩
        have HSS : Hid ((r = rd ∧ s = c * 64 + u) ∨ (r ≠ rd ∧ s = 0)) := hs
        have hs64 : s / 64 ≤ rows.length := by
          have h1 := HUC.out
          have h2 := HUU.out
          have h3 := HWD.out
          rcases hs with ⟨_, h⟩ | ⟨_, h⟩
          · rcases Nat.lt_or_ge u 64 with g | g
            · omega
            · have hu : u = 64 := by omega
              subst hu
              have : c ≠ rows.length := fun hc => h1 ⟨by rw [← h2, h3], hc⟩
              omega
          · omega
        have H13 : Hid (Calls Try.prog 13 #[.pointer (some ⟨P, 0, none⟩), .int .i64 r, .slice ao3 (natp ps).length cap3] w4 fun e w' => RetM w.heap.size P N r bs2 s (natp ps) (Fr (64 * N) rows) w4 e w') :=
          zzmessage_of _ _ _ w4 (message_of w.heap.size P N hN1 hN2 rd r v4 bs2 c u s (Fr (64 * N) rows) w4 HW4.out hu64 hb04.size (by rw [HL2.out]; omega) HSS.out (by rw [HL2.out]; exact hs64) ao3 cap3 (natp ps) HRI.out.pts (by rw [natp_length]; omega) (HPB.out.imp fun b C g => g.below hb4 g.lt))
        clear hW4 H12 hs
        go_wp2_with fail
        refine Calls.mono H13.out ?_
        rintro e w5 ⟨v5, cs5, b5, rfl, hcb5, hW5, hcs5, hP5, hb5⟩
        obtain ⟨c1, hc1⟩ : ∃ c1, s / 64 = c1 := ⟨_, rfl⟩
        obtain ⟨u1, hu1⟩ : ∃ u1, s % 64 = u1 := ⟨_, rfl⟩
        have hu1l : u1 < 64 := by omega
        rw [hc1] at hcb5 hcs5
        rw [hc1, hu1] at hW5
        obtain ⟨wu, hwu⟩ : ∃ wu, (u1 + 1) * N = wu := ⟨_, rfl⟩
        obtain ⟨st, hst⟩ : ∃ st, u1 * N = st := ⟨_, rfl⟩
        have hwA : wu ≤ st + N := by rw [← hwu, ← hst, Nat.add_mul, Nat.one_mul]; exact Nat.le_refl _
        have hwB : st + N ≤ wu := by rw [← hwu, ← hst, Nat.add_mul, Nat.one_mul]; exact Nat.le_refl _
        have hwul : wu ≤ wd := by
          have := Nat.mul_le_mul_right N (show u1 + 1 ≤ 64 by omega)
          rw [← hwu, HWD.out]; exact this
        rw [hwu] at hW5
        rw [hu1, hst]
        have hb05 : Below w.heap.size w w5 := hb04.trans hb5
        have hcl5 := (List.getElem?_eq_some_iff.1 hcb5).1
        have hK : (c1 = rows.length ∧ cs5.length = rows.length + 1) ∨ (c1 ≠ rows.length ∧ cs5.length = rows.length) := by
          have h2 := HL2.out
          rcases hcs5 with h | ⟨h, M, _, h3⟩
          · right; subst h; omega
          · left; subst h3; simp; omega
        have HK : Hid ((c1 = rows.length ∧ cs5.length = rows.length + 1) ∨ (c1 ≠ rows.length ∧ cs5.length = rows.length)) := hK
        have hkl : cs5.length ≤ 65537 := by omega
        have hc5 : 0 < cs5.length := by omega
        have HW5 : Hid (Wire w.heap.size w5 P N r v5 cs5 c1 wu (lay N s (natp ps) (Fr (64 * N) rows))) := hW5
        have HCB5 : Hid (cs5[c1]? = some b5) := hcb5
        have HC1 : Hid (s / 64 = c1) := hc1
        have HU1 : Hid (s % 64 = u1) := hu1
        have HST0 : Hid (u1 * N = st) := hst
        have HWU : Hid ((u1 + 1) * N = wu) := hwu
        have HCP5 : Hid (Copies w.heap.size w5 bs1 rows) := by
          have h4 := HCP1.out.below (((hb2.trans (hb3.mono hb2.size)).trans (hb4.mono (hb2.trans (hb3.mono hb2.size)).size)))
          refine h4.imp fun b hb C hB => hP5 b C 54 (by decide) (by decide) (fun hm => ?_) hB
          have h1 := HCP1.out.lt hb
          have h2 := HCP2.out.low b hm
          omega
        have HR5 : Hid ((ao1 = none ∧ rows = []) ∨ ∃ N_1, ao1 = some ⟨N_1, 0, none⟩ ∧ Blk w5 N_1 (partRow N rows.length bs1) 41) := by
          rcases HR1.out with h | ⟨N1, h1, _, h2⟩
          · exact .inl h
          · have h3 := h2.below (((hb2.trans (hb3.mono hb2.size)).trans (hb4.mono (hb2.trans (hb3.mono hb2.size)).size))) h2.lt
            exact .inr ⟨N1, h1, hP5 N1 _ 41 (by decide) (by decide) (HW4.out.not_cs h3 (by decide)) h3⟩
        have H14 : Hid (Calls Try.prog 14 #[.pointer (some ⟨P, 0, none⟩)] w5 fun e w' => RetWS N r c1 wu cs5 w5 e w') := wireState w5 HW5.out hc5 (by omega)
        clear hcb5 hW5 hcs5 hP5 hb5 H13 HW4 HPB HR1 HR2 HCP1 HCP2 hK hcl5 hc1 hu1 hwu hst hb2 hb3 hb4 hb1 hb02 hb03 hb04
        go_wp2_with fail
        refine Calls.mono H14.out ?_
        rintro e w6 ⟨M, rfl, hM6, hb6⟩
        have hb06 : Below w.heap.size w w6 := hb05.trans (hb6.mono hb05.size)
        have H15 : Hid (Calls Try.prog 15 #[.int .i64 (N : Int), .slice po ps.length pcap] w6 fun e w' => RetOne N (natp ps) w6 e w') := by
          have := singles N (by omega) po pcap (natp ps) HRI.out.pts (by rw [natp_length]; omega) w6 ((HPS.out.below hb06).ps HRI.out)
          rw [natp_length] at this; exact this
        have HM6 : Hid (Blk w6 M (partRow N cs5.length cs5) 41) := hM6
        clear hM6 H14
        go_wp2_with fail
        refine Calls.mono H15.out ?_
        rintro e w7 ⟨rfl, hE7, hb7⟩
        have hb07 : Below w.heap.size w w7 := hb06.trans (hb7.mono hb06.size)
        have hb57 : Below w5.heap.size w5 w7 := hb6.trans (hb7.mono hb6.size)
        have HAFT : Hid (∀ q (hq : q < cs5.length), w7.cell? ⟨M, q, none⟩ = some (.slice (some ⟨cs5[q], 0, none⟩) wd wd) ∧ ∀ j, j < wd → w7.cell? ⟨cs5[q], j, none⟩ = some (.int .u32 ((lay N s (natp ps) (Fr (64 * N) rows) (q * wd + j) : Nat) : Int))) := by
          intro q hq
          have hW7 := HW5.out.below hb57
          refine ⟨?_, fun j hj => ?_⟩
          · rw [(HM6.out.below hb7 HM6.out.lt).cell, partRow_get hq, HWD.out]; rfl
          · rw [(hW7.chk q hq).cell, wordsOf_get _ (by rw [← HWD.out]; exact hj), ← HWD.out]
        have HBEF : Hid (∀ q, q < rows.length → ∃ N1 b1, ao1 = some ⟨N1, 0, none⟩ ∧ w7.cell? ⟨N1, q, none⟩ = some (.slice (some ⟨b1, 0, none⟩) wd wd) ∧ ∀ j, j < wd → w7.cell? ⟨b1, j, none⟩ = some (.int .u32 ((Fr (64 * N) rows (q * wd + j) : Nat) : Int))) := by
          intro q hq
          rcases HR5.out with ⟨_, h⟩ | ⟨N1, h1, h2⟩
          · subst h; simp at hq
          have hq1 : q < bs1.length := by rw [HL1.out]; exact hq
          have hcp7 := HCP5.out.below hb57
          refine ⟨N1, bs1[q], h1, ?_, fun j hj => ?_⟩
          · rw [(h2.below hb57 h2.lt).cell, partRow_get hq1, HWD.out]; rfl
          · rw [(hcp7.chk HRW'.out q hq1).cell, wordsOf_get _ (by rw [← HWD.out]; exact hj), ← HWD.out]
        have HEXP : Hid (∀ l, l < N → w7.cell? ⟨w6.heap.size, l, none⟩ = some (.int .u32 ((one l (natp ps) : Nat) : Int))) := by
          intro l hl
          rw [hE7.cell, wordsOf_get _ hl]
        have hsn : s * N = c1 * wd + st := by
          have h1 := HC1.out
          have h2 := HU1.out
          have h3 : s = c1 * 64 + u1 := by omega
          rw [h3, Nat.add_mul, HST0.out, Nat.mul_assoc, ← HWD.out]
        have HLAY : Hid (∀ q j, j < wd → lay N s (natp ps) (Fr (64 * N) rows) (q * wd + j) = if q = c1 ∧ st ≤ j ∧ j < wu then one (j - st) (natp ps) else Fr (64 * N) rows (q * wd + j)) := by
          intro q j hj
          unfold lay
          rw [Nat.add_mul, Nat.one_mul, hsn]
          by_cases hq : q = c1
          · subst hq
            by_cases h1 : st ≤ j ∧ j < wu
            · rw [if_pos (by omega), if_pos ⟨rfl, h1.1, h1.2⟩]
              congr 1; omega
            · rw [if_neg (by omega), if_neg (fun h => h1 h.2)]
          · rw [if_neg, if_neg (fun h => hq h.1)]
            intro ⟨g1, g2⟩
            rcases Nat.lt_or_ge q c1 with g | g
            · have := Nat.mul_le_mul_right wd (show q + 1 ≤ c1 by omega)
              rw [Nat.add_mul, Nat.one_mul] at this
              omega
            · have := Nat.mul_le_mul_right wd (show c1 + 1 ≤ q by omega)
              rw [Nat.add_mul, Nat.one_mul] at this
              omega
        have H16 : Hid (Calls Try.prog 16 #[.slice (some ⟨b5, st, none⟩) N N, .slice (some ⟨w6.heap.size, 0, none⟩) N N] w7 fun e w' => RetB true w7 e w') := by
          refine eqWords b5 st N w6.heap.size 0 N N (fun l => one l (natp ps)) (by omega) w7 ?_ ?_
          · intro l hl
            obtain ⟨hcl, hce⟩ := List.getElem?_eq_some_iff.1 HCB5.out
            have := (HAFT.out c1 hcl).2 (st + l) (by omega)
            rw [hce, HLAY.out _ _ (by omega), if_pos (by omega), Nat.add_sub_cancel_left] at this
            exact this
          · intro l hl
            rw [Nat.zero_add]; exact HEXP.out l hl
        have HFZ : Hid (∀ q j, rows.length ≤ q → Fr (64 * N) rows (q * wd + j) = 0) := by
          intro q j hq
          refine Fr_zero (by omega) ?_
          have := Nat.mul_le_mul_right wd hq
          rw [← HWD.out]; omega
        clear hE7 hb7 hb6 hb57 hsn HM6 H15 HCP5 HR5 HW5 HST0 HL1 HL2
        generalize hE : w6.heap.size = E at *
        obtain ⟨K, hKe⟩ : ∃ K, cs5.length = K := ⟨_, rfl⟩
        rw [hKe] at HK hkl hc5 ⊢
        have HKE : Hid (cs5.length = K) := hKe
        clear hKe hE
        as_aux_lemma =>
        go_upto_if 198 with fail
        go_cut [30] from 38 (fun s30 wx => s30 = .int .i64 (s : Int) ∧ w7 = wx)
        case first =>
          rcases HSS.out with ⟨h1, h2⟩ | ⟨h1, h2⟩
          · have hbb : (r == rd) = true := by simp [h1]
            obtain ⟨a1, ha1⟩ : ∃ a1, IntKind.i64.wrap ((c : Int) * 64) = a1 := ⟨_, rfl⟩
            have ha1' : a1 = (c : Int) * 64 := by
              rw [← ha1, show ((c : Int) * 64) = ((c * 64 : Nat) : Int) by omega]; exact wrap_nat _ (by omega)
            have hwu2 : IntKind.i64.wrap (u : Int) = (u : Int) := wrap_nat _ (by omega)
            have ha2 : IntKind.i64.wrap (a1 + (u : Int)) = (s : Int) := by
              rw [ha1', h2, show ((c : Int) * 64 + (u : Int)) = ((c * 64 + u : Nat) : Int) by omega]; exact wrap_nat _ (by omega)
            have H1 : Hid (r = rd) := h1
            have H2 : Hid (s = c * 64 + u) := h2
            clear h1 h2 ha1'
            go_wp2_with fail
            go_meet
            exact ⟨rfl, rfl⟩
          · have hbb : (r == rd) = false := by simp [h1]
            have H2 : Hid (s = 0) := h2
            clear h1 h2
            go_wp2_with fail
            go_meet
            exact ⟨by rw [H2.out]; rfl, rfl⟩
        case rest =>
        as_aux_lemma =>
        obtain ⟨rfl, rfl⟩ := hcut
        have q1 : (s : Int) / 64 = (c1 : Int) := by have := HC1.out; omega
        have q2 : (s : Int) % 64 = (u1 : Int) := by have := HU1.out; omega
        have q3 : IntKind.i64.wrap (c1 : Int) = (c1 : Int) := wrap_nat _ (by have := HC1.out; omega)
        have q4 : IntKind.i64.wrap ((u1 : Int) + 1) = (u1 : Int) + 1 := by
          rw [show ((u1 : Int) + 1) = ((u1 + 1 : Nat) : Int) by omega]; exact wrap_nat _ (by omega)
        have q5 : IntKind.i64.wrap (((u1 : Int) + 1) * (N : Int)) = (wu : Int) := by
          rw [← HWU.out, show (((u1 : Int) + 1) * (N : Int)) = (((u1 + 1) * N : Nat) : Int) by simp]
          exact wrap_nat _ (by rw [HWU.out]; omega)
        have q6 : IntKind.i64.wrap ((wu : Int) - (N : Int)) = (st : Int) := by
          rw [show ((wu : Int) - (N : Int)) = (st : Int) by omega]; exact wrap_nat _ (by omega)
        go_upto_if 217 with fail
        go_cut [33] from 38 (fun s33 wx => s33 = .int .i64 (K : Int) ∧ w7 = wx)
        case first =>
          rcases HK.out with ⟨h1, h2⟩ | ⟨h1, h2⟩
          · have hbb : ((c1 : Int) == (rows.length : Int)) = true := by simp [h1]
            have q7 : IntKind.i64.wrap ((rows.length : Int) + 1) = (K : Int) := by
              rw [h2, show ((rows.length : Int) + 1) = ((rows.length + 1 : Nat) : Int) by omega]; exact wrap_nat _ (by omega)
            clear h1 h2
            go_wp2_with fail
            go_meet
            exact ⟨rfl, rfl⟩
          · have hbb : ((c1 : Int) == (rows.length : Int)) = false := by simp; omega
            have H2 : Hid (K = rows.length) := h2
            clear h1 h2
            go_wp2_with fail
            go_meet
            exact ⟨by rw [H2.out], rfl⟩
        case rest =>
        as_aux_lemma =>
        obtain ⟨rfl, rfl⟩ := hcut
        clear q1 q2 q3 q4 q5
        go_wp2_with fail
        refine Calls.mono H16.out ?_
        rintro e w8 ⟨rfl, hs8⟩
        have hb08 : Below w.heap.size w w8 := by obtain ⟨q, rfl⟩ := hs8; exact below_drewN hb07 _
        have HAFT8 : Hid (∀ q, q < K → ∃ b, w8.cell? ⟨M, q, none⟩ = some (.slice (some ⟨b, 0, none⟩) wd wd) ∧ ∀ j, j < wd → w8.cell? ⟨b, j, none⟩ = some (.int .u32 (((if q = c1 ∧ st ≤ j ∧ j < wu then one (j - st) (natp ps) else Fr (64 * N) rows (q * wd + j) : Nat) : Nat) : Int))) := by
          intro q hq
          have hq' : q < cs5.length := by rw [HKE.out]; exact hq
          obtain ⟨h1, h2⟩ := HAFT.out q hq'
          refine ⟨_, hs8.cell h1, fun j hj => ?_⟩
          have := hs8.cell (h2 j hj)
          rw [HLAY.out q j hj] at this
          exact this
        have HBEF8 : Hid (∀ q, q < rows.length → ∃ N1 b1, ao1 = some ⟨N1, 0, none⟩ ∧ w8.cell? ⟨N1, q, none⟩ = some (.slice (some ⟨b1, 0, none⟩) wd wd) ∧ ∀ j, j < wd → w8.cell? ⟨b1, j, none⟩ = some (.int .u32 ((Fr (64 * N) rows (q * wd + j) : Nat) : Int))) := by
          intro q hq
          obtain ⟨N1, b1, h1, h2, h3⟩ := HBEF.out q hq
          exact ⟨N1, b1, h1, hs8.cell h2, fun j hj => hs8.cell (h3 j hj)⟩
        have HEXP8 : Hid (∀ l, l < N → w8.cell? ⟨E, l, none⟩ = some (.int .u32 ((one l (natp ps) : Nat) : Int))) := fun l hl => hs8.cell (HEXP.out l hl)
        clear hs8 HAFT HBEF HEXP HLAY H16 hb07 HKE HSS HK
        go_wp2_with fail
        go_loop [35] (fun i => ∃ q : Nat, q ≤ K ∧ i = .int .i64 q) (fun i => K - (intOf i).toNat)
        case atStart => exact ⟨0, Nat.zero_le _, rfl⟩
        case round =>
          obtain ⟨q, hq, rfl⟩ := hrel
          by_cases hqk : q < K
          · obtain ⟨b, hbc, hbw⟩ := HAFT8.out q hqk
            have HBW : Hid _ := hbw
            clear hbw
            have hx1 : (q : Int) < (K : Int) := by omega
            go_wp2_with fail
            go_loop [36] (fun i => ∃ j : Nat, j ≤ wd ∧ i = .int .i64 j) (fun i => wd - (intOf i).toNat)
            case atStart => exact ⟨0, Nat.zero_le _, rfl⟩
            case round =>
              obtain ⟨j, hj, rfl⟩ := hrel
              by_cases hjw : j < wd
              · have hx2 : (j : Int) < (wd : Int) := by omega
                have hcx := HBW.out j hjw
                obtain ⟨inb, hinb⟩ : ∃ inb, decide (q = c1 ∧ st ≤ j ∧ j < wu) = inb := ⟨_, rfl⟩
                obtain ⟨X, hX⟩ : ∃ X : Nat, (if q = c1 ∧ st ≤ j ∧ j < wu then one (j - st) (natp ps) else Fr (64 * N) rows (q * wd + j)) = X := ⟨_, rfl⟩
                rw [hX] at hcx
                have HIB : Hid (decide (q = c1 ∧ st ≤ j ∧ j < wu) = inb) := hinb
                have HX : Hid ((if q = c1 ∧ st ≤ j ∧ j < wu then one (j - st) (natp ps) else Fr (64 * N) rows (q * wd + j)) = X) := hX
                clear hinb hX
                go_upto_region 66 with fail
                go_cut [281] from 264 to 307 (fun s281 wx => s281 = .bool inb ∧ w8 = wx)
                case first =>
                  by_cases h1 : q = c1
                  · have d1 : ((q : Int) == (c1 : Int)) = true := by simp [h1]
                    by_cases h2 : st ≤ j
                    · have d2 : decide ((st : Int) ≤ (j : Int)) = true := by rw [decide_eq_true_iff]; omega
                      have d2n : decide (st ≤ j) = true := by rw [decide_eq_true_iff]; omega
                      by_cases h3 : j < wu
                      · have d3 : decide ((j : Int) < (wu : Int)) = true := by rw [decide_eq_true_iff]; omega
                        have d3n : decide (j < wu) = true := by rw [decide_eq_true_iff]; omega
                        have HI : Hid (inb = true) := by unfold Hid; rw [← HIB.out]; exact decide_eq_true ⟨h1, h2, h3⟩
                        clear h1 h2 h3
                        go_wp2_with fail
                        go_meet
                        exact ⟨by rw [HI.out], rfl⟩
                      · have d3 : decide ((j : Int) < (wu : Int)) = false := by rw [decide_eq_false_iff_not]; omega
                        have d3n : decide (j < wu) = false := by rw [decide_eq_false_iff_not]; omega
                        have HI : Hid (inb = false) := by unfold Hid; rw [← HIB.out]; exact decide_eq_false fun h => h3 h.2.2
                        clear h1 h2 h3
                        go_wp2_with fail
                        go_meet
                        exact ⟨by rw [HI.out], rfl⟩
                    · have d2 : decide ((st : Int) ≤ (j : Int)) = false := by rw [decide_eq_false_iff_not]; omega
                      have d2n : decide (st ≤ j) = false := by rw [decide_eq_false_iff_not]; omega
                      have HI : Hid (inb = false) := by unfold Hid; rw [← HIB.out]; exact decide_eq_false fun h => h2 h.2.1
                      clear h1 h2
                      go_wp2_with fail
                      go_meet
                      exact ⟨by rw [HI.out], rfl⟩
                  · have d1 : ((q : Int) == (c1 : Int)) = false := by simp; omega
                    have HI : Hid (inb = false) := by unfold Hid; rw [← HIB.out]; exact decide_eq_false fun h => h1 h.1
                    clear h1
                    go_wp2_with fail
                    go_meet
                    exact ⟨by rw [HI.out], rfl⟩
                case rest =>
                as_aux_lemma =>
                obtain ⟨rfl, rfl⟩ := hcut
                cases inb
                · have hno : ¬ (q = c1 ∧ st ≤ j ∧ j < wu) := of_decide_eq_false HIB.out
                  have HXF : Hid (Fr (64 * N) rows (q * wd + j) = X) := by have := HX.out; rw [if_neg hno] at this; exact this
                  clear hno
                  by_cases hqr : q < rows.length
                  · obtain ⟨N1, b1, rfl, hn1, hn2⟩ := HBEF8.out q hqr
                    have hn3 := hn2 j hjw
                    rw [HXF.out] at hn3
                    have hx3 : (q : Int) < (rows.length : Int) := by omega
                    clear hn2
                    go_wp2
                    go_round
                    case rel => exact ⟨j + 1, by omega, by go_num⟩
                    case measure => simp [intOf]; omega
                  · have hX0 : X = 0 := by rw [← HXF.out]; exact HFZ.out q j (by omega)
                    subst hX0
                    have hx3 : decide ((q : Int) < (rows.length : Int)) = false := by rw [decide_eq_false_iff_not]; omega
                    have hx3n : decide (q < rows.length) = false := by rw [decide_eq_false_iff_not]; omega
                    go_wp2
                    go_round
                    case rel => exact ⟨j + 1, by omega, by go_num⟩
                    case measure => simp [intOf]; omega
                · have hyes : q = c1 ∧ st ≤ j ∧ j < wu := of_decide_eq_true HIB.out
                  obtain ⟨l, hl⟩ : ∃ l, j - st = l := ⟨_, rfl⟩
                  have hlN : l < N := by omega
                  have hjl : (j : Int) - (st : Int) = (l : Int) := by omega
                  have hjl2 : IntKind.i64.wrap (l : Int) = (l : Int) := wrap_nat _ (by omega)
                  have hce := HEXP8.out l hlN
                  have hXe : one l (natp ps) = X := by have := HX.out; rw [if_pos hyes, hl] at this; exact this
                  rw [hXe] at hce
                  have hx3 : (l : Int) < (N : Int) := by omega
                  clear hyes hl hXe
                  go_wp2
                  go_round
                  case rel => exact ⟨j + 1, by omega, by go_num⟩
                  case measure => simp [intOf]; omega
              · have hje : j = wd := by omega
                have HJE : Hid (j = wd) := hje
                have hx2 : decide ((j : Int) < (wd : Int)) = false := by rw [decide_eq_false_iff_not]; omega
                clear hje
                go_wp2
                go_round
                case rel => exact ⟨q + 1, by omega, by go_num⟩
                case measure => simp [intOf]; omega
          · have hx1 : decide ((q : Int) < (K : Int)) = false := by rw [decide_eq_false_iff_not]; omega
            go_wp2
            go_ret
            exact ⟨rfl, hb08⟩
end Go.Proofs.Qxb6619498a
