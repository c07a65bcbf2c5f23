import Derived.Test.Qxb6619794aKrem
namespace Go.Proofs.Qxb6619794a
open Go.RowKit

set_option maxHeartbeats 8000000 in
set_option maxRecDepth 100000 in
theorem remove_many (B kb : Nat) (cs : List Ch) (key : ByteArray) (ep : Int) (sh : Bool) (w : World) (hk : KAt B w kb cs ep sh) (hwf : WF (cs.map Ch.ss)) (hl : cs.length ≤ 2000000)
    (ci : Nat) (hcx : chunkIx (cs.map Ch.ss) key = ci) (hci : ci < cs.length) (hhas : hasB cs[ci].ss key = true) (hbel : below cs[ci].ss key < cs[ci].ss.length) (h1 : 1 < cs[ci].ss.length)
    (hrem : Rem (cs.map Ch.ss) ((cs.map Ch.ss).set ci (remAt cs[ci].ss key)) key) :
    Calls Try.prog 37 #[.pointer (some ⟨kb, 0, none⟩), .string key] w fun e w' => RetRem B kb cs key ep sh w e w' := by
  have HK : Hid (KAt B w kb cs ep sh) := hk
  have HWF : Hid (WF (cs.map Ch.ss)) := hwf
  have HREM : Hid (Rem (cs.map Ch.ss) ((cs.map Ch.ss).set ci (remAt cs[ci].ss key)) key) := hrem
  have HCX : Hid (chunkIx (cs.map Ch.ss) key = ci) := hcx
  obtain ⟨cb0, ccap0, hB0, hg0, hkb0⟩ := hk.arr (by omega)
  have hc1 : w.cell? ⟨kb, 0, none⟩ = some (.slice (some ⟨cb0, 0, none⟩) cs.length ccap0) := by rw [hkb0.cell]; rfl
  have hch0 := hk.2.1 cs[ci] (List.getElem_mem hci)
  have hc4 : w.cell? ⟨cb0, ci, none⟩ = some (.pointer (some ⟨cs[ci].p, 0, none⟩)) := by
    rw [hg0.cell (by rw [cptrs_length]; exact hci), cptrs_get hci]
  have hc5 : w.cell? ⟨cs[ci].p, 0, none⟩ = some (.slice (some ⟨cs[ci].r, 0, none⟩) cs[ci].ss.length cs[ci].cap) := by rw [hch0.2.2.1.cell]; rfl
  have HS0 : Hid (StrsAt w (some ⟨cs[ci].r, 0, none⟩) cs[ci].ss) := hch0.2.2.2.strs
  have hx1 : (ci : Int) < (cs.length : Int) := by omega
  have hok := hwf ci (by simpa using hci)
  have HASC : Hid (Asc cs[ci].ss) := by have := hok.2.2.1; unfold Hid; simpa using this
  have hsl : cs[ci].ss.length ≤ 512 := by have := hok.2.1; simpa using this
  have hpos : 0 < cs[ci].ss.length := by omega
  obtain ⟨p, hp⟩ : ∃ p, below cs[ci].ss key = p := ⟨_, rfl⟩
  have HP : Hid (below cs[ci].ss key = p) := hp
  rw [hp] at hbel
  obtain ⟨p1, hp1⟩ : ∃ p1, p1 = p + 1 := ⟨_, rfl⟩
  have HP1 : Hid (p1 = p + 1) := hp1
  have hwp : IntKind.i64.wrap ((p : Int) + 1) = (p1 : Int) := by rw [← wrap_nat p1 (by omega), hp1]; congr 1
  have HBIN : Hid (Calls Try.prog 43 #[.slice (some ⟨cs[ci].r, 0, none⟩) cs[ci].ss.length cs[ci].cap, .string key] w fun e w' => e = .returned (.tuple #[.int .i64 p, .bool true]) ∧ w' = w) := by
    have := bin43 (some ⟨cs[ci].r, 0, none⟩) cs[ci].cap cs[ci].ss key (by omega) HASC.out w HS0.out
    rw [hp, hhas] at this; exact this
  have HOWN : Hid (Calls Try.prog 45 #[.pointer (some ⟨kb, 0, none⟩), .int .i64 ci] w fun e w' => RetOwn B kb cs ci cs[ci] ep sh w e w') := own_any B kb cs ci ep sh w HK.out hci hl hpos (by omega)
  obtain ⟨m, hm⟩ : ∃ m, cs[ci].ss.length = m + 1 := ⟨cs[ci].ss.length - 1, by omega⟩
  have HM : Hid (cs[ci].ss.length = m + 1) := hm
  have hm0 : ((m : Int) == 0) = false := by rw [beq_eq_false_iff_ne]; omega
  have hmle : m ≤ 511 := by omega
  have hpm : p < m + 1 := by omega
  clear hk hwf hcx hg0 hkb0 hok hch0 hhas hbel h1 hp hp1 hrem hm
  go_enter Try.func37, Try.ntmps37
  go_wp2_with fail
  refine (chunkOf_any kb (cs.map Ch.ss) key (by simpa using hl) HWF.out w HK.out.kview).mono ?_
  rintro e w' ⟨rfl, hww⟩; subst w'
  rw [HCX.out]
  go_wp2_with fail
  refine Calls.mono HBIN.out ?_
  rintro e w' ⟨rfl, hww⟩; subst w'
  go_wp2_with fail
  refine Calls.mono HOWN.out ?_
  rintro e w2 ⟨c, rfl, hout, hk2, hpass, hb2⟩
  have hcss : c.ss = cs[ci].ss := hout.1
  have hcl : c.ss.length = m + 1 := by rw [hcss]; exact HM.out
  have hch : ChAt B w2 c := by
    have := hk2.2.1 ((cs.set ci c)[ci]'(by simpa using hci)) (List.getElem_mem _)
    rwa [List.getElem_set_self] at this
  have HCH : Hid (ChAt B w2 c) := hch
  obtain ⟨L, hL⟩ : ∃ L, c.ss.length = L := ⟨_, rfl⟩
  have hLm : L = m + 1 := by omega
  have hcp : below c.ss key = p := by rw [hcss]; exact HP.out
  have H44 : Hid (Calls Try.prog 44 #[.slice (some ⟨c.r, 0, none⟩) L c.cap, .int .i64 p, .int .i64 p1] w2 fun e w' => RetDel c.r m c.cap 9 ((remAt c.ss key).map Value.string) w2 e w') := by
    have := del44 c.r c.cap L p p1 m (c.ss.map Value.string) (by rw [List.length_map]; exact hL) HP1.out hLm (by omega) (fun u hu => by obtain ⟨x, _, rfl⟩ := List.mem_map.1 hu; rfl) w2 hch.2.2.2.grow
    have e := remAt_vals c.ss key
    rw [hcp] at e
    rw [e] at this
    exact this
  have HTL : Hid ((remAt c.ss key).length = m) := by have := remAt_length (l := c.ss) (key := key) (by rw [hcp]; omega); unfold Hid; omega
  have HMF : Hid (∀ w4, w2.grownBy w4 (some c.r) → RowAt w4 c.r c.cap (remAt c.ss key) → Mid B kb cs (cs.set ci ⟨c.p, c.r, c.cap, c.e, remAt c.ss key⟩) ep sh w (w4.setCell ⟨c.p, 0, none⟩ (.slice (some ⟨c.r, 0, none⟩) m c.cap))) := by
    intro w4 a1 a2
    have := mid_first HK.out hci hout hk2 hpass hb2 a1 a2
    rw [HTL.out] at this; exact this
  have HCSS : Hid (c.ss = cs[ci].ss) := hcss
  obtain ⟨cb, ccap, hBc, hgc, hkbc⟩ := hk2.arr (by rw [List.length_set]; omega)
  rw [List.length_set] at hkbc
  have HGC : Hid (GRow w2 cb ccap 57 (cptrs (cs.set ci c))) := hgc
  have HKB2 : Hid (Blk w2 kb #[.slice (some ⟨cb, 0, none⟩) cs.length ccap, .int .u64 ep, .bool sh] 56) := hkbc
  rw [hL]
  clear hout hk2 hpass hcss hch hcl hL hLm hcp hgc hkbc
  go_wp2_with fail
  refine Calls.mono H44.out ?_
  rintro e w4 ⟨rfl, hg4, hgr4⟩
  have hrow4 : RowAt w4 c.r c.cap (remAt c.ss key) := hg4.row rfl
  obtain ⟨cs1, hcs1⟩ : ∃ cs1, cs.set ci ⟨c.p, c.r, c.cap, c.e, remAt c.ss key⟩ = cs1 := ⟨_, rfl⟩
  have HMID : Hid (∀ w5, w4.setCell ⟨c.p, 0, none⟩ (.slice (some ⟨c.r, 0, none⟩) m c.cap) = w5 → Mid B kb cs cs1 ep sh w w5) := by
    rintro w5 rfl
    have := HMF.out w4 hgr4 hrow4
    rw [hcs1] at this; exact this
  have HREM1 : Hid (Rem (cs.map Ch.ss) (cs1.map Ch.ss) key) := by
    unfold Hid
    rw [← hcs1, List.map_set]
    have e := HCSS.out
    simp only [e]
    exact HREM.out
  have HL1 : Hid (cs1.length = cs.length) := by unfold Hid; rw [← hcs1, List.length_set]
  clear hcs1
  obtain ⟨cur, hcur, _⟩ := HCH.out.2.2.2
  have pass4 : ∀ b C t, t ≠ 9 → Blk w2 b C t → Blk w4 b C t := fun b C t ht hb => hb.grown hgr4 (by intro e; injection e with e; exact hcur.type_ne hb (Ne.symm ht) e)
  have hkb4 := pass4 _ _ _ (by decide) HKB2.out
  have hd1 : w4.cell? ⟨kb, 0, none⟩ = some (.slice (some ⟨cb, 0, none⟩) cs.length ccap) := by rw [hkb4.cell]; rfl
  have hd4 : w4.cell? ⟨cb, ci, none⟩ = some (.pointer (some ⟨c.p, 0, none⟩)) := by
    have h1 : GRow w4 cb ccap 57 (cptrs (cs.set ci c)) := HGC.out.imp fun C hC => pass4 _ _ _ (by decide) hC
    rw [h1.cell (by rw [cptrs_length, List.length_set]; exact hci), cptrs_get (by rw [List.length_set]; exact hci), List.getElem_set_self]
  have hp4 : Blk w4 c.p (chVals c) 59 := pass4 _ _ _ (by decide) HCH.out.2.2.1
  have hd5 : w4.cell? ⟨c.p, 0, none⟩ = some (.slice (some ⟨c.r, 0, none⟩) c.ss.length c.cap) := by rw [hp4.cell]; rfl
  have hdf : w4.frozen? ⟨c.p, 0, none⟩ = false := hp4.free 0
  have hne1 : kb ≠ c.p := hkb4.type_ne hp4 (by decide)
  have hne2 : c.p ≠ kb := Ne.symm hne1
  obtain ⟨n1, hn1⟩ : ∃ n1, cs.length = n1 + 1 := ⟨cs.length - 1, by omega⟩
  have HN1 : Hid (cs.length = n1 + 1) := hn1
  have hwn : IntKind.i64.wrap ((cs.length : Int) - 1) = (n1 : Int) := wrap_pred hn1 (by omega)
  clear hg4 hgr4 hrow4 hcur pass4 hkb4 hp4 hBc hn1
  rcases Nat.lt_or_ge ci n1 with hlt | hge
  rotate_left
  · have heq : ((ci : Int) == (n1 : Int)) = true := by have := HN1.out; rw [beq_iff_eq]; omega
    rcases Nat.eq_zero_or_pos ci with h0 | h0
    · -- no neighbour
      subst h0
      go_wp2_with fail
      obtain ⟨w5, hw5⟩ : ∃ w5, w4.setCell ⟨c.p, 0, none⟩ (.slice (some ⟨c.r, 0, none⟩) m c.cap) = w5 := ⟨_, rfl⟩
      have HM5 : Hid (Mid B kb cs cs1 ep sh w w5) := HMID.out _ hw5
      rw [hw5]
      clear hw5
      go_quiet (fail)
      go_wp2_with fail
      go_end0
      exact ⟨_, HM5.out.retK ⟨_, rfl⟩ rfl, HREM1.out⟩
    · obtain ⟨j, hj⟩ : ∃ j, ci = j + 1 := ⟨ci - 1, by omega⟩
      have HJ : Hid (j + 1 < cs1.length) := by have := HN1.out; have := HL1.out; unfold Hid; omega
      have hwj : IntKind.i64.wrap ((ci : Int) - 1) = (j : Int) := wrap_pred hj (by omega)
      clear hj
      go_wp2_with fail
      obtain ⟨w5, hw5⟩ : ∃ w5, w4.setCell ⟨c.p, 0, none⟩ (.slice (some ⟨c.r, 0, none⟩) m c.cap) = w5 := ⟨_, rfl⟩
      have hm5 := HMID.out _ hw5
      have HM5 : Hid (Mid B kb cs cs1 ep sh w w5) := hm5
      rw [hw5]
      have hj2 := HJ.out
      have hj1 : j < cs1.length := by omega
      have hl1 : cs1.length ≤ 2000000 := by rw [HL1.out]; exact hl
      obtain ⟨cb5, ccap5, hB5, hg5, hkb5⟩ := hm5.1.arr (by omega)
      have HG5 : Hid (GRow w5 cb5 ccap5 57 (cptrs cs1)) := hg5
      have HKB5 : Hid (Blk w5 kb #[.slice (some ⟨cb5, 0, none⟩) cs1.length ccap5, .int .u64 ep, .bool sh] 56) := hkb5
      obtain ⟨y, hy⟩ : ∃ y, cs1[j] = y := ⟨_, rfl⟩
      obtain ⟨z, hz⟩ : ∃ z, cs1[j + 1] = z := ⟨_, rfl⟩
      have hyc : ChAt B w5 y := by rw [← hy]; exact hm5.1.2.1 _ (List.getElem_mem hj1)
      have hzc : ChAt B w5 z := by rw [← hz]; exact hm5.1.2.1 _ (List.getElem_mem hj2)
      have HYC : Hid (ChAt B w5 y) := hyc
      have HZC : Hid (ChAt B w5 z) := hzc
      obtain ⟨j1, hjj⟩ : ∃ j1, j1 = j + 1 := ⟨_, rfl⟩
      have hwj1 : IntKind.i64.wrap ((j : Int) + 1) = (j1 : Int) := by rw [← wrap_nat j1 (by omega), hjj]; congr 1
      have f1 : w5.cell? ⟨kb, 0, none⟩ = some (.slice (some ⟨cb5, 0, none⟩) cs1.length ccap5) := by rw [hkb5.cell]; rfl
      have f2 : w5.cell? ⟨cb5, j, none⟩ = some (.pointer (some ⟨y.p, 0, none⟩)) := by
        rw [hg5.cell (by rw [cptrs_length]; exact hj1), cptrs_get hj1, hy]
      have f3 : w5.cell? ⟨y.p, 0, none⟩ = some (.slice (some ⟨y.r, 0, none⟩) y.ss.length y.cap) := by rw [hyc.2.2.1.cell]; rfl
      have f4 : w5.cell? ⟨cb5, j1, none⟩ = some (.pointer (some ⟨z.p, 0, none⟩)) := by
        subst hjj
        rw [hg5.cell (by rw [cptrs_length]; exact hj2), cptrs_get hj2, hz]
      have f5 : w5.cell? ⟨z.p, 0, none⟩ = some (.slice (some ⟨z.r, 0, none⟩) z.ss.length z.cap) := by rw [hzc.2.2.1.cell]; rfl
      have hsy := HREM1.out.2.1 y.ss (by rw [← hy]; exact List.mem_map_of_mem (List.getElem_mem hj1))
      have hsz := HREM1.out.2.1 z.ss (by rw [← hz]; exact List.mem_map_of_mem (List.getElem_mem hj2))
      obtain ⟨sm, hsm⟩ : ∃ sm, sm = y.ss.length + z.ss.length := ⟨_, rfl⟩
      have hws : IntKind.i64.wrap ((y.ss.length : Int) + (z.ss.length : Int)) = (sm : Int) := by rw [← wrap_nat sm (by omega), hsm]; congr 1
      have hxj : (j : Int) < (cs1.length : Int) := by omega
      have hxj1 : (j1 : Int) < (cs1.length : Int) := by omega
      have hj0 : decide ((0 : Int) ≤ (j : Int)) = true := by rw [decide_eq_true_iff]; omega
      have HY : Hid (cs1[j] = y) := hy
      have HZ : Hid (cs1[j + 1] = z) := hz
      have HJJ : Hid (j1 = j + 1) := hjj
      have HSM : Hid (sm = y.ss.length + z.ss.length) := hsm
      clear hm5 hw5 hg5 hkb5 hy hz hyc hzc hjj hsm hd1 hd4 hd5 hdf hwn heq hwp h0
      rcases Nat.lt_or_ge 256 sm with hmg | hmg
      · have hdec : decide ((sm : Int) ≤ 256) = false := by rw [decide_eq_false_iff_not]; omega
        clear hmg
        go_quiet (fail)
        go_wp2_with fail
        go_end0
        exact ⟨_, HM5.out.retK ⟨_, rfl⟩ rfl, HREM1.out⟩
      · have hdec : decide ((sm : Int) ≤ 256) = true := by rw [decide_eq_true_iff]; omega
        have HMG : Hid (sm ≤ 256) := hmg
        clear hmg
        go_quiet (fail)
        go_wp2_with fail
        generalize hw6 : World.drewN w5 _ = w6
        have hst6 : Still w5 w6 := ⟨_, hw6.symm⟩
        have g1 := hst6.cell f1
        have g4 := hst6.cell f4
        have g5 := hst6.cell f5
        have HM6 : Hid (Mid B kb cs cs1 ep sh w w6.drew) := (HM5.out.still hst6).still ⟨1, rfl⟩
        have HKB6 : Hid (Blk w6.drew kb #[.slice (some ⟨cb5, 0, none⟩) cs1.length ccap5, .int .u64 ep, .bool sh] 56) := HKB5.out.still hst6.drew
        have HZ6 : Hid (ChAt B w6.drew z) := ⟨HZC.out.1, HZC.out.2.1, HZC.out.2.2.1.still hst6.drew, HZC.out.2.2.2.imp fun C hC => hC.still hst6.drew⟩
        have HOWNJ : Hid (Calls Try.prog 45 #[.pointer (some ⟨kb, 0, none⟩), .int .i64 j] w6.drew fun e w' => RetOwn B kb cs1 j cs1[j] ep sh w6.drew e w') := own_any B kb cs1 j ep sh w6.drew HM6.out.1 hj1 hl1 (by rw [HY.out]; exact hsy.1) (by rw [HY.out]; omega)
        obtain ⟨n2, hn2⟩ : ∃ n2, cs1.length = n2 + 1 := ⟨cs1.length - 1, by omega⟩
        have HN2 : Hid (cs1.length = n2 + 1) := hn2
        obtain ⟨j2, hjj2⟩ : ∃ j2, j2 = j1 + 1 := ⟨_, rfl⟩
        have HJJ2 : Hid (j2 = j1 + 1) := hjj2
        have hwj2 : IntKind.i64.wrap ((j : Int) + 2) = (j2 : Int) := by have := HJJ.out; rw [← wrap_nat j2 (by omega), hjj2, this]; congr 1
        clear hn2 hjj2 f1 f2 f3 f4 f5 hws hj0 hst6 hw6
        go_region_law (first | (refine step_append_many rfl (.tmp 103) (.tmp 114) rfl B (.slice (some ⟨d.r, 0, none⟩) d.ss.length d.cap) d.ss d.ss.length rfl (by simp [Act.eval]) (RowAt.own t8.2.2.2 t8.2.1) ⟨z.r, 0, none⟩ z.ss.length z.cap z.ss (by simp [Act.eval]) rfl hsz.1 t7 (by omega) (by have := t8.2.2.2.lt; have := t8.2.1; omega) ?_; intro g cap8 w8 hrow8 hgr8 hor8) | (go_simp; go_wp2_with (go_at_call 45; refine Calls.mono HOWNJ.out ?_; rintro e w7 ⟨d, rfl, hout7, hk7, hpass7, hb7⟩; obtain ⟨t1, t2, t3, t4, t5, t6, t7, t8⟩ := after_own HKB6.out hj1 hj2 HJJ.out HZ.out HZ6.out hk7 hpass7; have hdl : d.ss.length ≤ 512 := (by rw [hout7.1, HY.out]; exact hsy.2))))
        all_goals
          have hgr8' : w7.grownBy w8 (some d.r) := hgr8
          have hg8 : g = d.r ∨ w7.heap.size ≤ g := by
            rcases hor8 with h | h
            · left; simpa [Value.ownBlock] using h.symm
            · right; omega
          obtain ⟨U, hU⟩ : ∃ U, d.ss ++ z.ss = U := ⟨_, rfl⟩
          rw [hU] at hrow8
          obtain ⟨u1, u2, u3, u4, u5, u6, u7⟩ := after_app (g := g) (cap8 := cap8) (U := U) t1 t2 hj1 t8 hgr8'
          have hUl : U.length = d.ss.length + z.ss.length := by rw [← hU, List.length_append]
          obtain ⟨w9, hw9⟩ : ∃ w9, w8.setCell ⟨d.p, 0, none⟩ (.slice (some ⟨g, 0, none⟩) (d.ss.length + z.ss.length) cap8) = w9 := ⟨_, rfl⟩
          have u8 := u7 (.slice (some ⟨g, 0, none⟩) (d.ss.length + z.ss.length) cap8)
          rw [hw9] at u8
          have hjx := HJJ.out
          have H46 : Hid (Calls Try.prog 46 #[.slice (some ⟨cb5, 0, none⟩) cs1.length ccap5, .int .i64 j1, .int .i64 j2] w9 fun e w' => RetDel cb5 n2 ccap5 57 ((cptrs (cs1.set j ⟨d.p, g, cap8, d.e, U⟩)).take j1 ++ (cptrs (cs1.set j ⟨d.p, g, cap8, d.e, U⟩)).drop (j1 + 1)) w9 e w') :=
            del46 cb5 ccap5 cs1.length j1 j2 n2 (cptrs (cs1.set j ⟨d.p, g, cap8, d.e, U⟩)) (by rw [cptrs_length, List.length_set]) HJJ2.out HN2.out (by omega) (fun u hu => by unfold cptrs at hu; obtain ⟨x, _, rfl⟩ := List.mem_map.1 hu; rfl) w9 u8.2
          have HKB9 : Hid (Blk w9 kb #[.slice (some ⟨cb5, 0, none⟩) cs1.length ccap5, .int .u64 ep, .bool sh] 56) := u8.1
          have HG9 : Hid (∃ C, Blk w9 cb5 C 57) := u8.2.blk
          have HFIN : Hid (∀ w10, GRow w10 cb5 ccap5 57 ((cptrs (cs1.set j ⟨d.p, g, cap8, d.e, U⟩)).take j1 ++ (cptrs (cs1.set j ⟨d.p, g, cap8, d.e, U⟩)).drop (j1 + 1)) → w9.grownBy w10 (some cb5) →
              RetRem B kb cs key ep sh w (.returned (.tuple #[])) (w10.setCell ⟨kb, 0, none⟩ (.slice (some ⟨cb5, 0, none⟩) n2 ccap5))) := by
            intro w10 hg10 hgr10
            rw [hjx] at hg10
            have e1 := mid_last HM6.out hj1 hj2 HN2.out hout7 hk7 hpass7 hb7 hgr8' hg8 hrow8 (by rw [hUl]; exact hw9) hB5 HG9.out HKB9.out hgr10 hg10
            have l1 : j < (cs1.map Ch.ss).length := by simpa using hj1
            have l2 : j + 1 < (cs1.map Ch.ss).length := by simpa using hj2
            have eU : (cs1.map Ch.ss)[j] ++ (cs1.map Ch.ss)[j + 1] = U := by
              rw [List.getElem_map, List.getElem_map, HZ.out, ← hout7.1, hU]
            have e2 := rem_merge HREM1.out l1 l2 (by rw [List.getElem_map, List.getElem_map, HZ.out, HY.out]; have := HSM.out; have := HMG.out; omega)
            rw [eU] at e2
            exact ⟨_, e1, e2⟩
          clear hgr8 hor8 hgr8' hg8 hrow8 t1 t2 t3 t4 t5 t6 t7 t8 hout7 hk7 hpass7 hb7 u7 u8 hU hUl hjx g1 g4 g5
          have hc9 : w9.cell? ⟨kb, 0, none⟩ = some (.slice (some ⟨cb5, 0, none⟩) cs1.length ccap5) := by rw [HKB9.out.cell]; rfl
          go_wp2_with fail
          refine Calls.mono H46.out ?_
          rintro e w10 ⟨rfl, hg10, hgr10⟩
          have HEND := HFIN.out w10 hg10 hgr10
          have HEND' : Hid (RetRem _ _ _ _ _ _ _ _ _) := HEND
          obtain ⟨D, hD⟩ := HG9.out
          have hkb10 : Blk w10 kb #[.slice (some ⟨cb5, 0, none⟩) cs1.length ccap5, .int .u64 ep, .bool sh] 56 := HKB9.out.grown hgr10 (by intro e; injection e with e; exact HKB9.out.type_ne hD (by decide) e.symm)
          have x1 : w10.cell? ⟨kb, 0, none⟩ = some (.slice (some ⟨cb5, 0, none⟩) cs1.length ccap5) := by rw [hkb10.cell]; rfl
          have x2 : w10.frozen? ⟨kb, 0, none⟩ = false := hkb10.free 0
          clear HEND hg10 hgr10 hD hkb10
          go_wp2_with fail
          go_end0
          exact HEND'.out
  · -- the neighbour behind
    have heq : ((ci : Int) == (n1 : Int)) = false := by rw [beq_eq_false_iff_ne]; omega
    obtain ⟨j, hj⟩ : ∃ j, j = ci := ⟨ci, rfl⟩
    have HJE : Hid (j = ci) := hj
    have HJ : Hid (j + 1 < cs1.length) := by have := HN1.out; have := HL1.out; unfold Hid; omega
    have h0 : ci ≤ ci := Nat.le_refl _
    clear hj
    go_wp2_with fail
    have hj := HJE.out
    subst hj
    clear HJE
    obtain ⟨w5, hw5⟩ : ∃ w5, w4.setCell ⟨c.p, 0, none⟩ (.slice (some ⟨c.r, 0, none⟩) m c.cap) = w5 := ⟨_, rfl⟩
    have hm5 := HMID.out _ hw5
    have HM5 : Hid (Mid B kb cs cs1 ep sh w w5) := hm5
    rw [hw5]
    have hj2 := HJ.out
    have hj1 : j < cs1.length := by omega
    have hl1 : cs1.length ≤ 2000000 := by rw [HL1.out]; exact hl
    obtain ⟨cb5, ccap5, hB5, hg5, hkb5⟩ := hm5.1.arr (by omega)
    have HG5 : Hid (GRow w5 cb5 ccap5 57 (cptrs cs1)) := hg5
    have HKB5 : Hid (Blk w5 kb #[.slice (some ⟨cb5, 0, none⟩) cs1.length ccap5, .int .u64 ep, .bool sh] 56) := hkb5
    obtain ⟨y, hy⟩ : ∃ y, cs1[j] = y := ⟨_, rfl⟩
    obtain ⟨z, hz⟩ : ∃ z, cs1[j + 1] = z := ⟨_, rfl⟩
    have hyc : ChAt B w5 y := by rw [← hy]; exact hm5.1.2.1 _ (List.getElem_mem hj1)
    have hzc : ChAt B w5 z := by rw [← hz]; exact hm5.1.2.1 _ (List.getElem_mem hj2)
    have HYC : Hid (ChAt B w5 y) := hyc
    have HZC : Hid (ChAt B w5 z) := hzc
    obtain ⟨j1, hjj⟩ : ∃ j1, j1 = j + 1 := ⟨_, rfl⟩
    have hwj1 : IntKind.i64.wrap ((j : Int) + 1) = (j1 : Int) := by rw [← wrap_nat j1 (by omega), hjj]; congr 1
    have f1 : w5.cell? ⟨kb, 0, none⟩ = some (.slice (some ⟨cb5, 0, none⟩) cs1.length ccap5) := by rw [hkb5.cell]; rfl
    have f2 : w5.cell? ⟨cb5, j, none⟩ = some (.pointer (some ⟨y.p, 0, none⟩)) := by
      rw [hg5.cell (by rw [cptrs_length]; exact hj1), cptrs_get hj1, hy]
    have f3 : w5.cell? ⟨y.p, 0, none⟩ = some (.slice (some ⟨y.r, 0, none⟩) y.ss.length y.cap) := by rw [hyc.2.2.1.cell]; rfl
    have f4 : w5.cell? ⟨cb5, j1, none⟩ = some (.pointer (some ⟨z.p, 0, none⟩)) := by
      subst hjj
      rw [hg5.cell (by rw [cptrs_length]; exact hj2), cptrs_get hj2, hz]
    have f5 : w5.cell? ⟨z.p, 0, none⟩ = some (.slice (some ⟨z.r, 0, none⟩) z.ss.length z.cap) := by rw [hzc.2.2.1.cell]; rfl
    have hsy := HREM1.out.2.1 y.ss (by rw [← hy]; exact List.mem_map_of_mem (List.getElem_mem hj1))
    have hsz := HREM1.out.2.1 z.ss (by rw [← hz]; exact List.mem_map_of_mem (List.getElem_mem hj2))
    obtain ⟨sm, hsm⟩ : ∃ sm, sm = y.ss.length + z.ss.length := ⟨_, rfl⟩
    have hws : IntKind.i64.wrap ((y.ss.length : Int) + (z.ss.length : Int)) = (sm : Int) := by rw [← wrap_nat sm (by omega), hsm]; congr 1
    have hxj : (j : Int) < (cs1.length : Int) := by omega
    have hxj1 : (j1 : Int) < (cs1.length : Int) := by omega
    have hj0 : decide ((0 : Int) ≤ (j : Int)) = true := by rw [decide_eq_true_iff]; omega
    have HY : Hid (cs1[j] = y) := hy
    have HZ : Hid (cs1[j + 1] = z) := hz
    have HJJ : Hid (j1 = j + 1) := hjj
    have HSM : Hid (sm = y.ss.length + z.ss.length) := hsm
    clear hm5 hw5 hg5 hkb5 hy hz hyc hzc hjj hsm hd1 hd4 hd5 hdf hwn heq hwp h0
    rcases Nat.lt_or_ge 256 sm with hmg | hmg
    · have hdec : decide ((sm : Int) ≤ 256) = false := by rw [decide_eq_false_iff_not]; omega
      clear hmg
      go_quiet (fail)
      go_wp2_with fail
      go_end0
      exact ⟨_, HM5.out.retK ⟨_, rfl⟩ rfl, HREM1.out⟩
    · have hdec : decide ((sm : Int) ≤ 256) = true := by rw [decide_eq_true_iff]; omega
      have HMG : Hid (sm ≤ 256) := hmg
      clear hmg
      go_quiet (fail)
      go_wp2_with fail
      generalize hw6 : World.drewN w5 _ = w6
      have hst6 : Still w5 w6 := ⟨_, hw6.symm⟩
      have g1 := hst6.cell f1
      have g4 := hst6.cell f4
      have g5 := hst6.cell f5
      have HM6 : Hid (Mid B kb cs cs1 ep sh w w6.drew) := (HM5.out.still hst6).still ⟨1, rfl⟩
      have HKB6 : Hid (Blk w6.drew kb #[.slice (some ⟨cb5, 0, none⟩) cs1.length ccap5, .int .u64 ep, .bool sh] 56) := HKB5.out.still hst6.drew
      have HZ6 : Hid (ChAt B w6.drew z) := ⟨HZC.out.1, HZC.out.2.1, HZC.out.2.2.1.still hst6.drew, HZC.out.2.2.2.imp fun C hC => hC.still hst6.drew⟩
      have HOWNJ : Hid (Calls Try.prog 45 #[.pointer (some ⟨kb, 0, none⟩), .int .i64 j] w6.drew fun e w' => RetOwn B kb cs1 j cs1[j] ep sh w6.drew e w') := own_any B kb cs1 j ep sh w6.drew HM6.out.1 hj1 hl1 (by rw [HY.out]; exact hsy.1) (by rw [HY.out]; omega)
      obtain ⟨n2, hn2⟩ : ∃ n2, cs1.length = n2 + 1 := ⟨cs1.length - 1, by omega⟩
      have HN2 : Hid (cs1.length = n2 + 1) := hn2
      obtain ⟨j2, hjj2⟩ : ∃ j2, j2 = j1 + 1 := ⟨_, rfl⟩
      have HJJ2 : Hid (j2 = j1 + 1) := hjj2
      have hwj2 : IntKind.i64.wrap ((j : Int) + 2) = (j2 : Int) := by have := HJJ.out; rw [← wrap_nat j2 (by omega), hjj2, this]; congr 1
      clear hn2 hjj2 f1 f2 f3 f4 f5 hws hj0 hst6 hw6
      go_region_law (first | (refine step_append_many rfl (.tmp 103) (.tmp 114) rfl B (.slice (some ⟨d.r, 0, none⟩) d.ss.length d.cap) d.ss d.ss.length rfl (by simp [Act.eval]) (RowAt.own t8.2.2.2 t8.2.1) ⟨z.r, 0, none⟩ z.ss.length z.cap z.ss (by simp [Act.eval]) rfl hsz.1 t7 (by omega) (by have := t8.2.2.2.lt; have := t8.2.1; omega) ?_; intro g cap8 w8 hrow8 hgr8 hor8) | (go_simp; go_wp2_with (go_at_call 45; refine Calls.mono HOWNJ.out ?_; rintro e w7 ⟨d, rfl, hout7, hk7, hpass7, hb7⟩; obtain ⟨t1, t2, t3, t4, t5, t6, t7, t8⟩ := after_own HKB6.out hj1 hj2 HJJ.out HZ.out HZ6.out hk7 hpass7; have hdl : d.ss.length ≤ 512 := (by rw [hout7.1, HY.out]; exact hsy.2))))
      all_goals
        have hgr8' : w7.grownBy w8 (some d.r) := hgr8
        have hg8 : g = d.r ∨ w7.heap.size ≤ g := by
          rcases hor8 with h | h
          · left; simpa [Value.ownBlock] using h.symm
          · right; omega
        obtain ⟨U, hU⟩ : ∃ U, d.ss ++ z.ss = U := ⟨_, rfl⟩
        rw [hU] at hrow8
        obtain ⟨u1, u2, u3, u4, u5, u6, u7⟩ := after_app (g := g) (cap8 := cap8) (U := U) t1 t2 hj1 t8 hgr8'
        have hUl : U.length = d.ss.length + z.ss.length := by rw [← hU, List.length_append]
        obtain ⟨w9, hw9⟩ : ∃ w9, w8.setCell ⟨d.p, 0, none⟩ (.slice (some ⟨g, 0, none⟩) (d.ss.length + z.ss.length) cap8) = w9 := ⟨_, rfl⟩
        have u8 := u7 (.slice (some ⟨g, 0, none⟩) (d.ss.length + z.ss.length) cap8)
        rw [hw9] at u8
        have hjx := HJJ.out
        have H46 : Hid (Calls Try.prog 46 #[.slice (some ⟨cb5, 0, none⟩) cs1.length ccap5, .int .i64 j1, .int .i64 j2] w9 fun e w' => RetDel cb5 n2 ccap5 57 ((cptrs (cs1.set j ⟨d.p, g, cap8, d.e, U⟩)).take j1 ++ (cptrs (cs1.set j ⟨d.p, g, cap8, d.e, U⟩)).drop (j1 + 1)) w9 e w') :=
          del46 cb5 ccap5 cs1.length j1 j2 n2 (cptrs (cs1.set j ⟨d.p, g, cap8, d.e, U⟩)) (by rw [cptrs_length, List.length_set]) HJJ2.out HN2.out (by omega) (fun u hu => by unfold cptrs at hu; obtain ⟨x, _, rfl⟩ := List.mem_map.1 hu; rfl) w9 u8.2
        have HKB9 : Hid (Blk w9 kb #[.slice (some ⟨cb5, 0, none⟩) cs1.length ccap5, .int .u64 ep, .bool sh] 56) := u8.1
        have HG9 : Hid (∃ C, Blk w9 cb5 C 57) := u8.2.blk
        have HFIN : Hid (∀ w10, GRow w10 cb5 ccap5 57 ((cptrs (cs1.set j ⟨d.p, g, cap8, d.e, U⟩)).take j1 ++ (cptrs (cs1.set j ⟨d.p, g, cap8, d.e, U⟩)).drop (j1 + 1)) → w9.grownBy w10 (some cb5) →
            RetRem B kb cs key ep sh w (.returned (.tuple #[])) (w10.setCell ⟨kb, 0, none⟩ (.slice (some ⟨cb5, 0, none⟩) n2 ccap5))) := by
          intro w10 hg10 hgr10
          rw [hjx] at hg10
          have e1 := mid_last HM6.out hj1 hj2 HN2.out hout7 hk7 hpass7 hb7 hgr8' hg8 hrow8 (by rw [hUl]; exact hw9) hB5 HG9.out HKB9.out hgr10 hg10
          have l1 : j < (cs1.map Ch.ss).length := by simpa using hj1
          have l2 : j + 1 < (cs1.map Ch.ss).length := by simpa using hj2
          have eU : (cs1.map Ch.ss)[j] ++ (cs1.map Ch.ss)[j + 1] = U := by
            rw [List.getElem_map, List.getElem_map, HZ.out, ← hout7.1, hU]
          have e2 := rem_merge HREM1.out l1 l2 (by rw [List.getElem_map, List.getElem_map, HZ.out, HY.out]; have := HSM.out; have := HMG.out; omega)
          rw [eU] at e2
          exact ⟨_, e1, e2⟩
        clear hgr8 hor8 hgr8' hg8 hrow8 t1 t2 t3 t4 t5 t6 t7 t8 hout7 hk7 hpass7 hb7 u7 u8 hU hUl hjx g1 g4 g5
        have hc9 : w9.cell? ⟨kb, 0, none⟩ = some (.slice (some ⟨cb5, 0, none⟩) cs1.length ccap5) := by rw [HKB9.out.cell]; rfl
        go_wp2_with fail
        refine Calls.mono H46.out ?_
        rintro e w10 ⟨rfl, hg10, hgr10⟩
        have HEND := HFIN.out w10 hg10 hgr10
        have HEND' : Hid (RetRem _ _ _ _ _ _ _ _ _) := HEND
        obtain ⟨D, hD⟩ := HG9.out
        have hkb10 : Blk w10 kb #[.slice (some ⟨cb5, 0, none⟩) cs1.length ccap5, .int .u64 ep, .bool sh] 56 := HKB9.out.grown hgr10 (by intro e; injection e with e; exact HKB9.out.type_ne hD (by decide) e.symm)
        have x1 : w10.cell? ⟨kb, 0, none⟩ = some (.slice (some ⟨cb5, 0, none⟩) cs1.length ccap5) := by rw [hkb10.cell]; rfl
        have x2 : w10.frozen? ⟨kb, 0, none⟩ = false := hkb10.free 0
        clear HEND hg10 hgr10 hD hkb10
        go_wp2_with fail
        go_end0
        exact HEND'.out
end Go.Proofs.Qxb6619794a
