import Derived.Test.Qxb6619498aLaw3
import Derived.Test.Qxb6619498aGrade
import Derived.Test.Qxb6619498aPlain
import Derived.Deep.Cut
import Derived.Deep.CutRange
namespace Go.Proofs.Qxb6619498a
open Go.RowKit


set_option maxHeartbeats 8000000 in
set_option maxRecDepth 100000 in
theorem law3Ss (a0 : Addr) (cap : Nat) (gs : List G) (wb wo : Nat) (wv wq : Int) (w : World) (hs : GsAt w (some a0) gs) (hw0 : w.cell? ⟨wb, wo, none⟩ = some (.int .i64 wv)) (hw1 : w.cell? ⟨wb, wo + 1, none⟩ = some (.int .i64 wq)) :
    Calls Try.prog 3 #[.slice (some a0) gs.length cap, .pointer (some ⟨wb, wo, none⟩)] w fun e w' => e = .returned (.bool true) ∧ Below w.heap.size w w' := by
  have HS : Hid (GsAt w (some a0) gs) := hs
  have HW0 : Hid (w.cell? ⟨wb, wo, none⟩ = some (.int .i64 wv)) := hw0
  have HW1 : Hid (w.cell? ⟨wb, wo + 1, none⟩ = some (.int .i64 wq)) := hw1
  clear hw0 hw1
  clear hs
  go_enter Try.func3, Try.ntmps3
  go_wp2_with fail
  refine (bytesJ _ gs.length cap _ w).mono ?_
  rintro e w' ⟨⟨b, rfl, -⟩, hww⟩; subst w'
  cases b
  · go_wp2_with fail
    go_ret
    exact ⟨rfl, Below.refl _ _⟩
  by_cases hbig : 32768 < gs.length
  · go_wp2_with fail
    go_ret
    exact ⟨rfl, Below.refl _ _⟩
  have hbd : decide ((32768 : Int) < (gs.length : Int)) = false := by rw [decide_eq_false_iff_not]; omega
  have hl : gs.length ≤ 32768 := by omega
  clear hbig
  go_wp2_with fail
  go_loop [5] (fun i => ∃ k : Nat, k ≤ gs.length ∧ i = .int .i64 k ∧ ∀ g ∈ gs.take k, 0 ≤ g.conf ∧ g.conf ≤ 2) (fun i => gs.length - (intOf i).toNat)
  case atStart => exact ⟨0, Nat.zero_le _, rfl, fun g hg => by simp at hg⟩
  case round =>
    obtain ⟨k, hk, rfl, hin⟩ := hrel
    have HIN : Hid (∀ g ∈ gs.take k, 0 ≤ g.conf ∧ g.conf ≤ 2) := hin
    clear hin
    by_cases hlt : k < gs.length
    · obtain ⟨b, off, hao, _, _, _, hc4⟩ := HS.out k hlt
      cases hao
      have hx1 : (k : Int) < (gs.length : Int) := by omega
      have HST : Hid (∀ c, gs[k].conf = c → 0 ≤ c → c ≤ 2 → ∀ g ∈ gs.take (k + 1), 0 ≤ g.conf ∧ g.conf ≤ 2) := by
        intro c hc h0 h2 g hg
        rw [take_snoc _ _ hlt] at hg
        rcases List.mem_append.1 hg with q | q
        · exact HIN.out g q
        · simp at q; subst q; omega
      generalize hck : gs[k].conf = ck at *
      have HST2 : Hid (0 ≤ ck → ck ≤ 2 → ∀ g ∈ gs.take (k + 1), 0 ≤ g.conf ∧ g.conf ≤ 2) := HST.out ck rfl
      clear HST hck
      by_cases hn : ck < 0
      · have hnd : decide (ck < 0) = true := by rw [decide_eq_true_iff]; exact hn
        go_wp2
        go_ret
        exact ⟨rfl, Below.refl _ _⟩
      have hnd : decide (ck < 0) = false := by rw [decide_eq_false_iff_not]; exact hn
      by_cases h2 : 2 < ck
      · have h2d : decide (2 < ck) = true := by rw [decide_eq_true_iff]; exact h2
        go_wp2
        go_ret
        exact ⟨rfl, Below.refl _ _⟩
      have h2d : decide (2 < ck) = false := by rw [decide_eq_false_iff_not]; exact h2
      go_wp2
      go_round
      case rel => exact ⟨k + 1, by omega, by go_num, HST2.out (by omega) (by omega)⟩
      case measure => simp [intOf]; omega
    have hke : k = gs.length := by omega
    have HCF : Hid (∀ g ∈ gs, 0 ≤ g.conf ∧ g.conf ≤ 2) := by have := HIN.out; rw [hke, List.take_of_length_le (Nat.le_refl _)] at this; exact this
    clear HIN hke
    obtain ⟨C, hC, hmk⟩ := make27 w gs.length (by omega)
    go_wp2_with fail
    obtain ⟨w1, hw1⟩ : ∃ w1, w.alloc (Obj.cells C 31) = w1 := ⟨_, rfl⟩
    rw [hw1]
    have HFILL : Hid (Fill w.heap.size w1 (some ⟨w.heap.size, 0, none⟩) gs 0) := by
      rw [← hw1]
      exact .inr ⟨w.heap.size, C, rfl, Nat.le_refl _, Blk.new _ _ _, hC, fun j _ h => by omega⟩
    have b1 : Below w.heap.size w w1 := by rw [← hw1]; exact (Below.refl _ _).alloc (Nat.le_refl _) _
    clear hw1 hmk hC
    go_loopw [7] (fun i wr => ∃ k : Nat, k ≤ gs.length ∧ i = .int .i64 k ∧ Fill w.heap.size wr (some ⟨w.heap.size, 0, none⟩) gs k ∧ Below w.heap.size w wr) (fun i _ => gs.length - (intOf i).toNat)
    case atStart => exact ⟨0, Nat.zero_le _, rfl, HFILL.out, b1⟩
    case round =>
      obtain ⟨k, hk, rfl, hfill, hbel⟩ := hrel
      by_cases hlt : k < gs.length
      · rcases hfill with h0 | ⟨N, C', hd, hBN, hb, hCs, hcs⟩
        · omega
        cases hd
        obtain ⟨b, off, hao, hc1, hc2, hc3, hc4⟩ := HS.out.below hbel k hlt
        cases hao
        have hx1 : (k : Int) < (gs.length : Int) := by omega
        have HFS := fun w2 (hw2 : Blk w2 _ C' 31) => fill_step (w := w2) hlt hBN hw2 hCs hcs
        have HF2 : Hid _ := HFS
        have HB2 : Hid (Blk wr w.heap.size C' 31) := hb
        have q : ∀ o, o < gs.length * 4 → ∃ v, wr.cell? ⟨w.heap.size, o, none⟩ = some v := fun o ho => ⟨C'[o]'(by omega), by rw [hb.cell]; simp [hCs, ho]⟩
        obtain ⟨v0, q0⟩ := q (k * 4) (by omega)
        obtain ⟨v1, q1⟩ := q (k * 4 + 1) (by omega)
        obtain ⟨v2, q2⟩ := q (k * 4 + 2) (by omega)
        obtain ⟨v3, q3⟩ := q (k * 4 + 3) (by omega)
        have z0 := hb.free (k * 4)
        have z1 := hb.free (k * 4 + 1)
        have z2 := hb.free (k * 4 + 2)
        have z3 := hb.free (k * 4 + 3)
        clear HFS hb hcs hCs q
        generalize hgk : gs[k] = gk at *
        obtain ⟨nk, dk, vk, ck⟩ := gk
        simp only at hc1 hc2 hc3 hc4 HF2
        clear hgk
        go_wp2_with fail
        go_region
        all_goals
          go_wp2
          go_roundw
          case rel => exact ⟨k + 1, by omega, by go_num, HF2.out _ HB2.out, (((hbel.drew.setCell (Nat.le_refl _) _).setCell (Nat.le_refl _) _).setCell (Nat.le_refl _) _).setCell (Nat.le_refl _) _⟩
          case measure => simp [intOf]; omega
      · have hke : k = gs.length := by omega
        subst hke
        have HG : Hid (GsAt wr (some ⟨w.heap.size, 0, none⟩) gs) := hfill.gs
        clear hfill
        have HB2 : Hid (Below w.heap.size w wr) := hbel
        have r0 : wr.cell? ⟨wb, wo, none⟩ = some (.int .i64 wv) := by rw [hbel.cell (cell_lt HW0.out)]; exact HW0.out
        have r1 : wr.cell? ⟨wb, wo + 1, none⟩ = some (.int .i64 wq) := by rw [hbel.cell (cell_lt HW1.out)]; exact HW1.out
        have r2 : ∀ o : Obj, (wr.alloc o).cell? ⟨wb, wo, none⟩ = some (.int .i64 wv) := fun o => cell_below r0 ((Below.refl _ _).alloc (Nat.le_refl _) _)
        have r3 : ∀ o : Obj, (wr.alloc o).cell? ⟨wb, wo + 1, none⟩ = some (.int .i64 wq) := fun o => cell_below r1 ((Below.refl _ _).alloc (Nat.le_refl _) _)
        go_wp2_with fail
        go_region
        go_wp2_with fail
        obtain ⟨X, hX⟩ : ∃ X, (wr.alloc (Obj.cells #[Value.int .i64 wv, Value.int .i64 wq] 29)).drew = X := ⟨_, rfl⟩
        rw [hX]
        have bX1 : Below wr.heap.size wr X := by rw [← hX]; exact ((Below.refl _ _).alloc (Nat.le_refl _) _).drew
        have HGX : Hid (GsAt X (some ⟨w.heap.size, 0, none⟩) gs) := HG.out.below bX1
        have cX0 : X.cell? ⟨wr.heap.size, 0, none⟩ = some (.int .i64 wv) := by rw [← hX]; exact ((Blk.new wr _ _).cell 0).trans rfl
        have cX1 : X.cell? ⟨wr.heap.size, 1, none⟩ = some (.int .i64 wq) := by rw [← hX]; exact ((Blk.new wr _ _).cell 1).trans rfl
        have bX : Below w.heap.size w X := hbel.trans (bX1.mono hbel.size)
        have h8 := zzjudge_of (.slice (some ⟨w.heap.size, 0, none⟩) gs.length gs.length) (.pointer (some ⟨wr.heap.size, 0, none⟩)) _ _ _ _ X (fun w' hb' => judge_of (some ⟨w.heap.size, 0, none⟩) gs.length gs (by omega) HCF.out _ _ _ w' (HGX.out.below hb') (fun w'' hb'' => judgeGradeS (some ⟨w.heap.size, 0, none⟩) gs.length gs (by omega) wr.heap.size wv wq w'' ((HGX.out.below hb').below hb'') (cell_below (cell_below cX0 hb') hb'') (cell_below (cell_below cX1 hb') hb'')))
        clear r0 r1 r2 r3 cX0 cX1 hX
        obtain ⟨A, hA⟩ : ∃ A, agree (vals (held gs)) = A := ⟨_, rfl⟩
        obtain ⟨V, hV⟩ : ∃ V, gs.all (ok (some (wv, wq))) = V := ⟨_, rfl⟩
        obtain ⟨T, hT⟩ : ∃ T, gs.all G.dec = T := ⟨_, rfl⟩
        obtain ⟨S, hS⟩ : ∃ S, decide (highOf gs - lowOf gs ≤ 1) = S := ⟨_, rfl⟩
        rw [hA, hV, hT, hS] at h8
        have HA : Hid (agree (vals (held gs)) = A) := hA
        have HV : Hid (gs.all (ok (some (wv, wq))) = V) := hV
        have HT : Hid (gs.all G.dec = T) := hT
        have HSS : Hid (decide (highOf gs - lowOf gs ≤ 1) = S) := hS
        have H8 : Hid _ := h8
        clear h8 hA hV hT hS
        refine Calls.mono H8.out ?_
        rintro e w6 ⟨rfl, hb6⟩
        have b6 : Below w.heap.size w w6 := bX.trans (hb6.mono bX.size)
        have hs6 := b6.size
        clear H8
        go_wp2_with fail
        obtain ⟨w7, hw7⟩ : ∃ w7, w6.alloc (Obj.cells #[Value.bool A, Value.bool V, Value.bool T] 35) = w7 := ⟨_, rfl⟩
        rw [hw7]
        have b7 : Below w.heap.size w w7 := by rw [← hw7]; exact b6.alloc hs6 _
        have HM7 : Hid (Blk w7 w6.heap.size #[.bool A, .bool V, .bool T] 35) := by unfold Hid; rw [← hw7]; exact Blk.new _ _ _
        clear hw7
        go_loopw [12, 13, 14, 15, 16, 17, 18, 19] (fun t v h lo hi z tw i wr => ∃ k : Nat, k ≤ gs.length ∧ i = .int .i64 k ∧ t = .bool ((gs.take k).all G.dec) ∧ v = .bool ((gs.take k).all (ok (some (wv, wq)))) ∧ h = .bool (hst (gs.take k)).1 ∧ lo = .int .i64 (hst (gs.take k)).2.1 ∧ hi = .int .i64 (hst (gs.take k)).2.2 ∧ z = .bool (sawC 0 (gs.take k)) ∧ tw = .bool (sawC 2 (gs.take k)) ∧ Below w7.heap.size w7 wr) (fun _ _ _ _ _ _ _ i _ => gs.length - (intOf i).toNat)
        case atStart => exact ⟨0, Nat.zero_le _, rfl, rfl, rfl, rfl, rfl, rfl, rfl, rfl, Below.refl _ _⟩
        case round =>
          obtain ⟨k, hk, rfl, rfl, rfl, rfl, rfl, rfl, rfl, rfl, hbel3⟩ := hrel
          by_cases hlt : k < gs.length
          · obtain ⟨b, off, hao, hc1, hc2, hc3, hc4⟩ := (HS.out.below b7).below hbel3 k hlt
            cases hao
            have hx1 : (k : Int) < (gs.length : Int) := by omega
            have hcin := HCF.out _ (List.getElem_mem hlt)
            have HTS : Hid ((gs.take (k + 1)).all G.dec = ((gs.take k).all G.dec && gs[k].dec)) := by unfold Hid; rw [take_snoc _ _ hlt, List.all_append]; simp
            have HVS : Hid ((gs.take (k + 1)).all (ok (some (wv, wq))) = ((gs.take k).all (ok (some (wv, wq))) && ok (some (wv, wq)) gs[k])) := by unfold Hid; rw [take_snoc _ _ hlt, List.all_append]; simp
            have HHS : Hid (hst (gs.take (k + 1)) = hstep (hst (gs.take k)) gs[k]) := hst_step hlt
            have HZS : Hid (sawC 0 (gs.take (k + 1)) = (sawC 0 (gs.take k) || (gs[k].conf == 0))) := sawC_step hlt
            have HWS : Hid (sawC 2 (gs.take (k + 1)) = (sawC 2 (gs.take k) || (gs[k].conf == 2))) := sawC_step hlt
            have hs3 := hbel3.size
            generalize (gs.take k).all G.dec = tb at *
            generalize (gs.take k).all (ok (some (wv, wq))) = vb at *
            generalize hst (gs.take k) = st at *
            generalize sawC 0 (gs.take k) = zb at *
            generalize sawC 2 (gs.take k) = twb at *
            generalize gs[k] = gk at *
            obtain ⟨nk, dk, vk, ck⟩ := gk
            obtain ⟨hb, lob, hib⟩ := st
            simp only at hc1 hc2 hc3 hc4 hcin HTS HHS HZS HWS ⊢
            obtain ⟨w8, hw8⟩ : ∃ w8, wr.alloc (Obj.cells #[Value.int .i64 nk, Value.bool dk, Value.int .i64 vk, Value.int .i64 ck] 26) = w8 := ⟨_, rfl⟩
            have hd := Blk.new wr #[Value.int .i64 nk, Value.bool dk, Value.int .i64 vk, Value.int .i64 ck] 26
            rw [hw8] at hd
            have e1 : w8.cell? ⟨wr.heap.size, 1, none⟩ = some (.bool dk) := by rw [hd.cell]; rfl
            have e2 : w8.cell? ⟨wr.heap.size, 2, none⟩ = some (.int .i64 vk) := by rw [hd.cell]; rfl
            have e3 : w8.cell? ⟨wr.heap.size, 3, none⟩ = some (.int .i64 ck) := by rw [hd.cell]; rfl
            have HB8 : Hid (Below w7.heap.size w7 w8) := by unfold Hid; rw [← hw8]; exact hbel3.alloc hs3 _
            have HW8 : Hid (wr.alloc (Obj.cells #[Value.int .i64 nk, Value.bool dk, Value.int .i64 vk, Value.int .i64 ck] 26) = w8) := hw8
            have y0 : w8.cell? ⟨wb, wo, none⟩ = some (.int .i64 wv) := by rw [HB8.out.cell (Nat.lt_of_lt_of_le (cell_lt HW0.out) b7.size), b7.cell (cell_lt HW0.out)]; exact HW0.out
            have y1 : w8.cell? ⟨wb, wo + 1, none⟩ = some (.int .i64 wq) := by rw [HB8.out.cell (Nat.lt_of_lt_of_le (cell_lt HW1.out) b7.size), b7.cell (cell_lt HW1.out)]; exact HW1.out
            clear hw8 hd
            have HOK : Hid (ok (some (wv, wq)) ⟨nk, dk, vk, ck⟩ = (dk && (vk == wv) && (ck == wq))) := by unfold Hid; simp [ok]
            generalize ok (some (wv, wq)) ⟨nk, dk, vk, ck⟩ = okb at *
            go_upto_if 115 with fail
            rw [HW8.out]
            go_cut [12] from 103 to 167 (fun s12 wx => s12 = .bool (tb && dk) ∧ w8 = wx)
            case first =>
              cases dk
              all_goals
                go_wp2_with fail
                go_meet
                exact ⟨by simp, rfl⟩
            case rest =>
            obtain ⟨rfl, rfl⟩ := hcut
            go_upto_region 33 with fail
            go_cut [140] from 103 to 167 (fun s140 wx => s140 = .bool (!okb) ∧ ∃ q, wx = w8.drewN q)
            case first =>
              cases dk
              · go_quiet (fail)
                go_wp2_with fail
                go_meet
                exact ⟨by rw [HOK.out]; simp, _, rfl⟩
              · cases hqa : (vk == wv)
                · have hna : (vk != wv) = true := by rw [bne, hqa]; rfl
                  go_quiet (fail)
                  go_wp2_with fail
                  go_meet
                  exact ⟨by rw [HOK.out]; simp [hqa], _, rfl⟩
                · have hna : (vk != wv) = false := by rw [bne, hqa]; rfl
                  cases hqb : (ck == wq)
                  · have hnb : (ck != wq) = true := by rw [bne, hqb]; rfl
                    go_quiet (fail)
                    go_wp2_with fail
                    go_meet
                    exact ⟨by rw [HOK.out]; simp [hqa, hqb], _, rfl⟩
                  · have hnb : (ck != wq) = false := by rw [bne, hqb]; rfl
                    go_quiet (fail)
                    go_wp2_with fail
                    go_meet
                    exact ⟨by rw [HOK.out]; simp [hqa, hqb], _, rfl⟩
            case rest =>
            obtain ⟨rfl, q9, hq9⟩ := hcut
            have g2 : wc.cell? ⟨wr.heap.size, 2, none⟩ = some (.int .i64 vk) := by rw [hq9]; exact e2
            have g3 : wc.cell? ⟨wr.heap.size, 3, none⟩ = some (.int .i64 ck) := by rw [hq9]; exact e3
            have HB9 : Hid (Below w7.heap.size w7 wc) := by unfold Hid; rw [hq9]; exact below_drewN HB8.out _
            clear hq9 e1 e2 e3 y0 y1 HB8 HW8 HOK
            go_upto_if 140 with fail
            go_cut [13] from 103 to 167 (fun s13 wx => s13 = .bool (vb && okb) ∧ wc = wx)
            case first =>
              cases okb
              all_goals
                go_wp2_with fail
                go_meet
                exact ⟨by simp, rfl⟩
            case rest =>
            obtain ⟨rfl, rfl⟩ := hcut
            rcases (show ck = 0 ∨ ck = 1 ∨ ck = 2 by omega) with rfl | rfl | rfl
            · go_wp2
              go_roundw
              case rel => exact ⟨k + 1, by omega, by go_num, by rw [HTS.out], by rw [HVS.out], by rw [HHS.out]; simp [hstep], by rw [HHS.out]; simp [hstep], by rw [HHS.out]; simp [hstep], by rw [HZS.out]; simp, by rw [HWS.out]; simp, HB9.out⟩
              case measure => simp [intOf]; omega
            · cases hb
              · go_wp2
                go_quiet (fail)
                go_wp2
                go_roundw
                case rel => exact ⟨k + 1, by omega, by go_num, by rw [HTS.out], by rw [HVS.out], by rw [HHS.out]; simp [hstep], by rw [HHS.out]; simp [hstep], by rw [HHS.out]; simp [hstep], by rw [HZS.out]; simp, by rw [HWS.out]; simp, below_drewN HB9.out _⟩
                case measure => simp [intOf]; omega
              · by_cases h1 : vk < lob <;> by_cases h2 : hib < vk
                · have d1 : decide (vk < lob) = true := by rw [decide_eq_true_iff]; exact h1
                  have d2 : decide (hib < vk) = true := by rw [decide_eq_true_iff]; exact h2
                  go_wp2
                  go_roundw
                  case rel => exact ⟨k + 1, by omega, by go_num, by rw [HTS.out], by rw [HVS.out], by rw [HHS.out]; simp [hstep], by rw [HHS.out]; simp [hstep] <;> first | omega | (split <;> omega) | (intros; omega), by rw [HHS.out]; simp [hstep] <;> first | omega | (split <;> omega) | (intros; omega), by rw [HZS.out]; simp, by rw [HWS.out]; simp, HB9.out⟩
                  case measure => simp [intOf]; omega
                · have d1 : decide (vk < lob) = true := by rw [decide_eq_true_iff]; exact h1
                  have d2 : decide (hib < vk) = false := by rw [decide_eq_false_iff_not]; exact h2
                  go_wp2
                  go_roundw
                  case rel => exact ⟨k + 1, by omega, by go_num, by rw [HTS.out], by rw [HVS.out], by rw [HHS.out]; simp [hstep], by rw [HHS.out]; simp [hstep] <;> first | omega | (split <;> omega) | (intros; omega), by rw [HHS.out]; simp [hstep] <;> first | omega | (split <;> omega) | (intros; omega), by rw [HZS.out]; simp, by rw [HWS.out]; simp, HB9.out⟩
                  case measure => simp [intOf]; omega
                · have d1 : decide (vk < lob) = false := by rw [decide_eq_false_iff_not]; exact h1
                  have d2 : decide (hib < vk) = true := by rw [decide_eq_true_iff]; exact h2
                  go_wp2
                  go_roundw
                  case rel => exact ⟨k + 1, by omega, by go_num, by rw [HTS.out], by rw [HVS.out], by rw [HHS.out]; simp [hstep], by rw [HHS.out]; simp [hstep] <;> first | omega | (split <;> omega) | (intros; omega), by rw [HHS.out]; simp [hstep] <;> first | omega | (split <;> omega) | (intros; omega), by rw [HZS.out]; simp, by rw [HWS.out]; simp, HB9.out⟩
                  case measure => simp [intOf]; omega
                · have d1 : decide (vk < lob) = false := by rw [decide_eq_false_iff_not]; exact h1
                  have d2 : decide (hib < vk) = false := by rw [decide_eq_false_iff_not]; exact h2
                  go_wp2
                  go_roundw
                  case rel => exact ⟨k + 1, by omega, by go_num, by rw [HTS.out], by rw [HVS.out], by rw [HHS.out]; simp [hstep], by rw [HHS.out]; simp [hstep] <;> first | omega | (split <;> omega) | (intros; omega), by rw [HHS.out]; simp [hstep] <;> first | omega | (split <;> omega) | (intros; omega), by rw [HZS.out]; simp, by rw [HWS.out]; simp, HB9.out⟩
                  case measure => simp [intOf]; omega
            · cases hb
              · go_wp2
                go_quiet (fail)
                go_wp2
                go_roundw
                case rel => exact ⟨k + 1, by omega, by go_num, by rw [HTS.out], by rw [HVS.out], by rw [HHS.out]; simp [hstep], by rw [HHS.out]; simp [hstep], by rw [HHS.out]; simp [hstep], by rw [HZS.out]; simp, by rw [HWS.out]; simp, below_drewN HB9.out _⟩
                case measure => simp [intOf]; omega
              · by_cases h1 : vk < lob <;> by_cases h2 : hib < vk
                · have d1 : decide (vk < lob) = true := by rw [decide_eq_true_iff]; exact h1
                  have d2 : decide (hib < vk) = true := by rw [decide_eq_true_iff]; exact h2
                  go_wp2
                  go_roundw
                  case rel => exact ⟨k + 1, by omega, by go_num, by rw [HTS.out], by rw [HVS.out], by rw [HHS.out]; simp [hstep], by rw [HHS.out]; simp [hstep] <;> first | omega | (split <;> omega) | (intros; omega), by rw [HHS.out]; simp [hstep] <;> first | omega | (split <;> omega) | (intros; omega), by rw [HZS.out]; simp, by rw [HWS.out]; simp, HB9.out⟩
                  case measure => simp [intOf]; omega
                · have d1 : decide (vk < lob) = true := by rw [decide_eq_true_iff]; exact h1
                  have d2 : decide (hib < vk) = false := by rw [decide_eq_false_iff_not]; exact h2
                  go_wp2
                  go_roundw
                  case rel => exact ⟨k + 1, by omega, by go_num, by rw [HTS.out], by rw [HVS.out], by rw [HHS.out]; simp [hstep], by rw [HHS.out]; simp [hstep] <;> first | omega | (split <;> omega) | (intros; omega), by rw [HHS.out]; simp [hstep] <;> first | omega | (split <;> omega) | (intros; omega), by rw [HZS.out]; simp, by rw [HWS.out]; simp, HB9.out⟩
                  case measure => simp [intOf]; omega
                · have d1 : decide (vk < lob) = false := by rw [decide_eq_false_iff_not]; exact h1
                  have d2 : decide (hib < vk) = true := by rw [decide_eq_true_iff]; exact h2
                  go_wp2
                  go_roundw
                  case rel => exact ⟨k + 1, by omega, by go_num, by rw [HTS.out], by rw [HVS.out], by rw [HHS.out]; simp [hstep], by rw [HHS.out]; simp [hstep] <;> first | omega | (split <;> omega) | (intros; omega), by rw [HHS.out]; simp [hstep] <;> first | omega | (split <;> omega) | (intros; omega), by rw [HZS.out]; simp, by rw [HWS.out]; simp, HB9.out⟩
                  case measure => simp [intOf]; omega
                · have d1 : decide (vk < lob) = false := by rw [decide_eq_false_iff_not]; exact h1
                  have d2 : decide (hib < vk) = false := by rw [decide_eq_false_iff_not]; exact h2
                  go_wp2
                  go_roundw
                  case rel => exact ⟨k + 1, by omega, by go_num, by rw [HTS.out], by rw [HVS.out], by rw [HHS.out]; simp [hstep], by rw [HHS.out]; simp [hstep] <;> first | omega | (split <;> omega) | (intros; omega), by rw [HHS.out]; simp [hstep] <;> first | omega | (split <;> omega) | (intros; omega), by rw [HZS.out]; simp, by rw [HWS.out]; simp, HB9.out⟩
                  case measure => simp [intOf]; omega
          · have hke : k = gs.length := by omega
            subst hke
            rw [List.take_of_length_le (Nat.le_refl _)]
            have hag := agree_hst gs
            have hne := near_eq gs HCF.out
            rw [HA.out] at hag
            rw [HSS.out] at hne
            rw [HV.out, HT.out]
            generalize hst gs = st at *
            obtain ⟨sh, lo, hi⟩ := st
            generalize sawC 0 gs = z at *
            generalize sawC 2 gs = tw at *
            simp only at hag ⊢
            have hM := HM7.out.below hbel3 HM7.out.lt
            have m0 : wr.cell? ⟨w6.heap.size, 0, none⟩ = some (.bool A) := by rw [hM.cell]; rfl
            have m1 : wr.cell? ⟨w6.heap.size, 1, none⟩ = some (.bool V) := by rw [hM.cell]; rfl
            have m2 : wr.cell? ⟨w6.heap.size, 2, none⟩ = some (.bool T) := by rw [hM.cell]; rfl
            have bfin : Below w.heap.size w wr := b7.trans (hbel3.mono b7.size)
            clear hM
            have hag' := hag.symm
            clear hag
            cases z <;> cases tw <;> simp only [Bool.and_true, Bool.and_false, Bool.not_true, Bool.not_false] at hne <;> subst hne
            all_goals
              go_wp2
              go_ret
              exact ⟨rfl, bfin⟩
end Go.Proofs.Qxb6619498a
