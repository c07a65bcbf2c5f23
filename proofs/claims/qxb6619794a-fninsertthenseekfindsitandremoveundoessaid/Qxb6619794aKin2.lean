import Derived.Test.Qxb6619794aClear
namespace Go.Proofs.Qxb6619794a
open Go.RowKit

theorem RowAt.strs_drop {w : World} {r cap : Nat} {ss : List ByteArray} (h : RowAt w r cap ss) (k : Nat) : StrsAt w (some ⟨r, k, none⟩) (ss.drop k) := by
  intro j hj
  have hj' : k + j < ss.length := by simp at hj; omega
  obtain ⟨b, off, e1, e2⟩ := h.strs (k + j) hj'
  cases e1
  refine ⟨r, k, rfl, ?_⟩
  rw [Nat.zero_add] at e2
  rw [e2]; simp

/-- The upper part of a row has been cleared. -/
theorem clear_row {w : World} {r cap h : Nat} {L : List Value} {T : List ByteArray} {zs : List Value} (hb : Blk w r (splice L h zs).toArray 9) (hz : (splice L h zs).length = cap) (hm : cap ≤ maxLen) (hT : L.take T.length = T.map Value.string) (hh : h ≤ T.length) (hc : T.length ≤ cap) (hl : L.length = cap) :
    RowAt w r cap (T.take h) := by
  refine ⟨_, hb, by simpa using hz, by rw [List.length_take]; omega, hm, ?_⟩
  have e : L.take h = (T.take h).map Value.string := by
    rw [List.map_take, ← hT, List.take_take, Nat.min_eq_left hh]
  have hl2 : (T.take h).length = h := by rw [List.length_take]; omega
  rw [hl2, List.toList_toArray]
  unfold splice
  rw [List.take_append_of_le_length (by rw [List.length_take]; omega), List.take_take, Nat.min_self, e]

theorem grow3 {w w4 w5 w6 : World} {r r4 : Nat} (h1 : w.grownBy w4 (some r)) (h2 : Below w4.heap.size w4 w5) (h3 : w5.grownBy w6 (some r4)) (hr : r4 = r ∨ w.heap.size ≤ r4) : w.grownBy w6 (some r) := by
  refine ⟨h3.os.trans (h2.os.trans h1.os), h3.tape.trans (h2.tape.trans h1.tape), h3.output.trans (h2.output.trans h1.output), Nat.le_trans h1.size (Nat.le_trans h2.size h3.size), fun k hk hne => ?_⟩
  have hk4 := Nat.lt_of_lt_of_le hk h1.size
  rw [h3.block k (Nat.lt_of_lt_of_le hk4 h2.size) ?_, h2.block k hk4, h1.block k hk hne]
  intro e
  injection e with e
  rcases hr with h | h
  · exact hne (by rw [e, h])
  · omega

theorem kb_after {w w' : World} {kb cb ccap : Nat} {xs : List Value} {v : Value} {ep : Int} {sh : Bool} {o1 o2 : Obj} (hk : Blk w kb #[v, .int .u64 ep, .bool sh] 56) (hg : GRow w cb ccap 57 xs) (hgr : ((w.alloc o1).alloc o2).drew.grownBy w' (some cb)) :
    w'.cell? ⟨kb, 0, none⟩ = some v ∧ w'.frozen? ⟨kb, 0, none⟩ = false := by
  obtain ⟨D, hD⟩ := hg.blk
  have h1 : Blk w' kb #[v, .int .u64 ep, .bool sh] 56 := Blk.grown (w := ((w.alloc o1).alloc o2).drew) ((hk.alloc _).alloc _) hgr (by intro e; injection e with e; exact hD.type_ne hk (by decide) e)
  exact ⟨by rw [h1.cell]; rfl, h1.free 0⟩

set_option maxHeartbeats 2000000 in
set_option maxRecDepth 100000 in
theorem insert_split (B kb : Nat) (cs : List Ch) (key : ByteArray) (ep : Int) (sh : Bool) (w : World) (hk : KAt B w kb cs ep sh) (hwf : WF (cs.map Ch.ss)) (hne : 0 < cs.length) (hl : cs.length ≤ 2000000)
    (ci : Nat) (hcx : chunkIx (cs.map Ch.ss) key = ci) (hci : ci < cs.length) (hbig : 512 < cs[ci].ss.length + 1) :
    Calls Try.prog 41 #[.pointer (some ⟨kb, 0, none⟩), .string key] w fun e w' => RetK B kb cs (((cs.map Ch.ss).set ci ((insAt cs[ci].ss key).take ((cs[ci].ss.length + 1) / 2))).take (ci + 1) ++ (insAt cs[ci].ss key).drop ((cs[ci].ss.length + 1) / 2) :: ((cs.map Ch.ss).set ci ((insAt cs[ci].ss key).take ((cs[ci].ss.length + 1) / 2))).drop (ci + 1)) ep sh w e w' := by
  have HK : Hid (KAt B w kb cs ep sh) := hk
  have HWF : Hid (WF (cs.map Ch.ss)) := hwf
  have HCX : Hid (chunkIx (cs.map Ch.ss) key = ci) := hcx
  obtain ⟨cb0, ccap0, hB0, hg0, hkb0⟩ := hk.arr hne
  have hc1 : w.cell? ⟨kb, 0, none⟩ = some (.slice (some ⟨cb0, 0, none⟩) cs.length ccap0) := by rw [hkb0.cell]; rfl
  have hn0 : ((cs.length : Int) == 0) = false := by rw [beq_eq_false_iff_ne]; omega
  have hok := hwf ci (by simpa using hci)
  have hpos : 0 < cs[ci].ss.length := by simpa using hok.1
  have hsm : cs[ci].ss.length ≤ 512 := by have := hok.2.1; simpa using this
  have HASC : Hid (Asc cs[ci].ss) := by have := hok.2.2.1; unfold Hid; simpa using this
  clear hk hwf hcx hg0 hkb0 hok
  go_enter Try.func41, Try.ntmps41
  go_wp2_with fail
  refine (chunkOf_any kb (cs.map Ch.ss) key (by simpa using hl) HWF.out w HK.out.kview).mono ?_
  rintro e w' ⟨rfl, hww⟩; subst w'
  rw [HCX.out]
  go_wp2_with fail
  refine (own_any B kb cs ci ep sh w HK.out hci hl hpos (by omega)).mono ?_
  rintro e w2 ⟨c, rfl, hout, hk2, hpass, hb2⟩
  have HOUT : Hid (OwnOut w cs[ci] c ep sh) := hout
  have HK2 : Hid (KAt B w2 kb (cs.set ci c) ep sh) := hk2
  have HPASS : Hid (∀ b C t, t ≠ 57 → Blk w b C t → Blk w2 b C t) := hpass
  have hcss : c.ss = cs[ci].ss := hout.1
  have HCSS : Hid (c.ss = cs[ci].ss) := hcss
  have hcl : c.ss.length ≤ 512 := by rw [hcss]; exact hsm
  have hcb : 512 < c.ss.length + 1 := by rw [hcss]; exact hbig
  have hch : ChAt B w2 c := by
    have := hk2.2.1 ((cs.set ci c)[ci]'(by simpa using hci)) (List.getElem_mem _)
    rwa [List.getElem_set_self] at this
  have HCH : Hid (ChAt B w2 c) := hch
  have HA2 : Hid (Asc c.ss) := by have := HASC.out; unfold Hid; rw [hcss]; exact this
  clear hout hk2 hpass hcss hch
  go_wp2_with fail
  refine (bin43 (some ⟨c.r, 0, none⟩) c.cap c.ss key (by omega) HA2.out w2 HCH.out.2.2.2.strs).mono ?_
  rintro e w' ⟨rfl, hww⟩; subst w'
  have hbl := below_le c.ss key
  have hw3l : c.r < w2.heap.size := HCH.out.2.2.2.lt
  go_wp2_with fail
  refine (ins47 c.r c.cap (below c.ss key) w2.heap.size c.ss.length (c.ss.map Value.string) (.string key) (by simp) hbl (by omega) _ (HCH.out.2.2.2.grow.imp fun C hC => hC.alloc _) (Blk.new w2 _ _) (by omega) (fun u hu => by simp at hu; obtain ⟨x, _, rfl⟩ := hu; rfl) rfl).mono ?_
  rintro e w4 ⟨r4, cap4, rfl, hg4, hr4, hgr4⟩
  rw [insAt_vals] at hg4
  have HROW : Hid (RowAt w4 r4 cap4 (insAt c.ss key)) := hg4.row rfl
  have HR4 : Hid (r4 = c.r ∨ (w2.alloc (.cells #[.string key] 9)).heap.size ≤ r4) := hr4
  have HGR4 : Hid ((w2.alloc (.cells #[.string key] 9)).grownBy w4 (some c.r)) := hgr4
  have HK3 : Hid (KAt B (w2.alloc (.cells #[.string key] 9)) kb (cs.set ci c) ep sh) := HK2.out.imp fun _ _ _ hb => hb.alloc _
  clear hg4 hr4 hgr4
  obtain ⟨cb, ccap, hBc, hgc, hkbc⟩ := HK3.out.arr (by simpa using hne)
  obtain ⟨cur, hcur, _⟩ := HCH.out.2.2.2
  have hcur3 : Blk (w2.alloc (.cells #[.string key] 9)) c.r cur 9 := hcur.alloc _
  have pass4 : ∀ b C t, t ≠ 9 → Blk (w2.alloc (.cells #[.string key] 9)) b C t → Blk w4 b C t := fun b C t ht hb => hb.grown HGR4.out (by intro e; injection e with e; exact hcur3.type_ne hb (Ne.symm ht) e)
  have hd1 : w4.cell? ⟨kb, 0, none⟩ = some (.slice (some ⟨cb, 0, none⟩) cs.length ccap) := by
    have := (pass4 _ _ _ (by decide) hkbc).cell 0
    rw [List.length_set] at this
    exact this
  have hd4 : w4.cell? ⟨cb, ci, none⟩ = some (.pointer (some ⟨c.p, 0, none⟩)) := by
    have h1 : GRow w4 cb ccap 57 (cptrs (cs.set ci c)) := hgc.imp fun C hC => pass4 _ _ _ (by decide) hC
    rw [h1.cell (by rw [cptrs_length, List.length_set]; exact hci), cptrs_get (by rw [List.length_set]; exact hci), List.getElem_set_self]
  have hp4 : Blk w4 c.p (chVals c) 59 := pass4 _ _ _ (by decide) (HCH.out.2.2.1.alloc _)
  have hd5 : w4.cell? ⟨c.p, 0, none⟩ = some (.slice (some ⟨c.r, 0, none⟩) c.ss.length c.cap) := by rw [hp4.cell]; rfl
  have hdf : w4.frozen? ⟨c.p, 0, none⟩ = false := hp4.free 0
  have hx1 : (ci : Int) < (cs.length : Int) := by omega
  have hle : decide ((c.ss.length : Int) + 1 ≤ 512) = false := by rw [decide_eq_false_iff_not]; omega
  obtain ⟨h, hh, hh1⟩ : ∃ h : Nat, ((c.ss.length : Int) + 1) / 2 = (h : Int) ∧ h = (c.ss.length + 1) / 2 := ⟨(c.ss.length + 1) / 2, by omega, rfl⟩
  have hh2 : 0 < h := by omega
  have hh3 : h < c.ss.length + 1 := by omega
  have HH : Hid (h = (c.ss.length + 1) / 2) := hh1
  obtain ⟨T, hT⟩ : ∃ T, insAt c.ss key = T := ⟨_, rfl⟩
  have HT : Hid (insAt c.ss key = T) := hT
  rw [hT] at HROW
  have hTL : T.length = c.ss.length + 1 := by rw [← hT]; exact insAt_length _ _
  have HTL : Hid (T.length = c.ss.length + 1) := hTL
  obtain ⟨cur4, hb4, hs4, hl4, hm4, ht4⟩ := HROW.out
  have hcp4 : c.ss.length + 1 ≤ cap4 := by rw [← hTL]; exact hl4
  clear hgc hkbc hcur hcur3 pass4 hp4 hh1 hT hTL hb4 hs4 hl4 ht4
  go_wp2_with fail
  simp only [hh]
  obtain ⟨U, hU⟩ : ∃ U, T.drop h = U := ⟨_, rfl⟩
  have HU : Hid (T.drop h = U) := hU
  have hUl : U.length = c.ss.length + 1 - h := by rw [← hU, List.length_drop, HTL.out]
  have HUL : Hid (U.length = c.ss.length + 1 - h) := hUl
  have HSU : Hid (StrsAt w4 (some ⟨r4, h, none⟩) U) := by have := HROW.out.strs_drop h; rw [hU] at this; exact this
  clear hU hUl
  refine (clone48 r4 h (c.ss.length + 1 - h) (cap4 - h) U (by omega) (by omega) HUL.out w4 HSU.out).mono ?_
  rintro e w5 ⟨r5, cap5, rfl, hr5, hrow5, hb5⟩
  have HR5 : Hid (w4.heap.size ≤ r5) := hr5
  have HROW5 : Hid (RowAt w5 r5 cap5 U) := hrow5
  have HB5 : Hid (Below w4.heap.size w4 w5) := hb5
  obtain ⟨cur, hcu4, hs4, hl4, hm4', ht4⟩ := HROW.out
  have hcu5 : Blk w5 r4 cur 9 := hcu4.below hb5 hcu4.lt
  obtain ⟨L, hL⟩ : ∃ L, cur.toList = L := ⟨_, rfl⟩
  have HL5 : Hid (Blk w5 r4 L.toArray 9) := by unfold Hid; rw [← hL]; simpa using hcu5
  have HLL : Hid (L.length = cap4) := by unfold Hid; rw [← hL]; simpa using hs4
  have HLT : Hid (L.take T.length = T.map Value.string) := by unfold Hid; rw [← hL]; exact ht4
  have q1 : w5.cell? ⟨kb, 0, none⟩ = some (.slice (some ⟨cb, 0, none⟩) cs.length ccap) := cell_below hd1 hb5
  clear hr5 hrow5 hb5 hcu4 hs4 hl4 hm4' ht4 hcu5 hL
  rw [HUL.out]
  go_wp2_with (refine wpList_clear_row rfl _ 30 9 (.string ByteArray.empty) rfl Try.underlying30 zero9 rfl rfl r4 h (c.ss.length + 1 - h) (cap4 - h) rfl (by omega) L HL5.out (by rw [HLL.out]; omega) ?_)
  intro w6 hb6 hgr6
  have HROW6 : Hid (RowAt w6 r4 cap4 (T.take h)) := clear_row hb6 (by rw [length_splice _ _ _ (by rw [HLL.out]; simp; omega), HLL.out]) hm4 HLT.out (by rw [HTL.out]; omega) (by rw [HTL.out]; omega) HLL.out
  have HGR : Hid ((w2.alloc (.cells #[.string key] 9)).grownBy w6 (some c.r)) := grow3 HGR4.out HB5.out hgr6 HR4.out
  have HGR6 : Hid (w5.grownBy w6 (some r4)) := hgr6
  obtain ⟨cur, hcur, _⟩ := HCH.out.2.2.2
  have hcur3 : Blk (w2.alloc (.cells #[.string key] 9)) c.r cur 9 := hcur.alloc _
  have pass6 : ∀ b C t, t ≠ 9 → Blk (w2.alloc (.cells #[.string key] 9)) b C t → Blk w6 b C t := fun b C t ht hb => hb.grown HGR.out (by intro e; injection e with e; exact hcur3.type_ne hb (Ne.symm ht) e)
  obtain ⟨cb', ccap', hBc', hgc, hkbc⟩ := HK3.out.arr (by simpa using hne)
  have e1 : w6.cell? ⟨kb, 0, none⟩ = some (.slice (some ⟨cb', 0, none⟩) cs.length ccap') := by
    have := (pass6 _ _ _ (by decide) hkbc).cell 0
    rw [List.length_set] at this
    exact this
  have e4 : w6.cell? ⟨cb', ci, none⟩ = some (.pointer (some ⟨c.p, 0, none⟩)) := by
    have h1 : GRow w6 cb' ccap' 57 (cptrs (cs.set ci c)) := hgc.imp fun C hC => pass6 _ _ _ (by decide) hC
    rw [h1.cell (by rw [cptrs_length, List.length_set]; exact hci), cptrs_get (by rw [List.length_set]; exact hci), List.getElem_set_self]
  have hp6 : Blk w6 c.p (chVals c) 59 := pass6 _ _ _ (by decide) (HCH.out.2.2.1.alloc _)
  have e5 : w6.cell? ⟨c.p, 0, none⟩ = some (.slice (some ⟨c.r, 0, none⟩) c.ss.length c.cap) := by rw [hp6.cell]; rfl
  have ef : w6.frozen? ⟨c.p, 0, none⟩ = false := hp6.free 0
  have hx2 : (h : Int) ≤ (cap4 : Int) := by omega
  have hx3 : (0 : Int) ≤ (h : Int) := by omega
  have hx4 : (0 : Int) ≤ (ci : Int) := by omega
  clear hb6 hgr6 hcur hcur3 pass6 hgc hkbc hp6 q1 hd1 hd4 hd5 hdf
  go_wp2_with fail
  go_region
  have hhl : (T.take h).length = h := by rw [List.length_take, HTL.out]; omega
  have hset : (cs.set ci c)[ci]'(by simpa using hci) = c := List.getElem_set_self _
  have hst := row_step (r' := r4) (cap' := cap4) (ss' := T.take h) (w' := w6) HK3.out (ci := ci) (by simpa using hci) (by rw [hset]; exact HGR.out) (by rw [hset]; exact HR4.out) HROW6.out
  rw [hset, hhl, List.set_set] at hst
  obtain ⟨hkF, hfr, hp9⟩ := hst
  obtain ⟨w7, hw7⟩ : ∃ w7, (w6.setCell ⟨c.p, 0, none⟩ (.slice (some ⟨r4, 0, none⟩) h cap4)).drew = w7 := ⟨_, rfl⟩
  obtain ⟨cs3, hcs3⟩ : ∃ cs3, cs.set ci ⟨c.p, r4, cap4, c.e, T.take h⟩ = cs3 := ⟨_, rfl⟩
  have HCS3 : Hid (cs.set ci ⟨c.p, r4, cap4, c.e, T.take h⟩ = cs3) := hcs3
  have HK7 : Hid (KAt B w7 kb cs3 ep sh) := by unfold Hid; rw [← hw7, ← hcs3]; exact hkF
  have HFR7 : Hid (KFrame B (w2.alloc (.cells #[.string key] 9)) w7) := by unfold Hid; rw [← hw7]; exact ⟨hfr.1.drew, hfr.2⟩
  have HP7 : Hid (∀ b C, b ≠ c.r → Blk (w2.alloc (.cells #[.string key] 9)) b C 9 → Blk w7 b C 9) := by unfold Hid; rw [← hw7]; exact hp9
  have hr4l : r4 < w4.heap.size := HROW.out.lt
  have HROW7 : Hid (RowAt w7 r5 cap5 U) := by
    unfold Hid; rw [← hw7]
    have h5 := HR5.out
    have h6 : RowAt w6 r5 cap5 U := HROW5.out.imp fun C hC => hC.grown HGR6.out (by intro e; injection e with e; omega)
    have hp6 : Blk w6 c.p (chVals c) 59 := by
      obtain ⟨cur, hcur, _⟩ := HCH.out.2.2.2
      exact (HCH.out.2.2.1.alloc _).grown HGR.out (by intro e; injection e with e; exact hcur.type_ne HCH.out.2.2.1 (by decide) e)
    exact h6.imp fun C hC => hC.set_ne (hC.type_ne hp6 (by decide)) _ _
  have HFRESH : Hid (r5 ∉ cs3.map Ch.r) := by
    intro hin
    obtain ⟨d, hd, he⟩ := List.mem_map.1 hin
    rw [← hcs3] at hd
    have h5 := HR5.out
    have hs24 : w2.heap.size ≤ w4.heap.size := by have := HGR4.out.size; simp at this; omega
    rcases List.mem_or_eq_of_mem_set hd with g | g
    · obtain ⟨j, hj, rfl⟩ := List.mem_iff_getElem.1 g
      by_cases hji : j = ci
      · subst hji
        have := (HK.out.2.1 cs[j] (List.getElem_mem hj)).2.2.2.lt
        have hww : w.heap.size ≤ w2.heap.size := hb2.size
        omega
      · have hm : cs[j] ∈ cs.set ci c := by
          have : (cs.set ci c)[j]'(by simpa using hj) = cs[j] := List.getElem_set_ne (fun e => hji e.symm) _
          rw [← this]; exact List.getElem_mem _
        have := (HK2.out.2.1 _ hm).2.2.2.lt
        omega
    · subst g; simp only at he; omega
  have hlen3 : cs3.length = cs.length := by rw [← hcs3]; simp
  obtain ⟨cb7, ccap7, hB7, hg7, hkb7⟩ := HK7.out.arr (by omega)
  rw [hlen3] at hkb7
  have HG7 : Hid (GRow w7 cb7 ccap7 57 (cptrs cs3)) := hg7
  have HKB7 : Hid (Blk w7 kb #[.slice (some ⟨cb7, 0, none⟩) cs.length ccap7, .int .u64 ep, .bool sh] 56) := hkb7
  have HLEN3 : Hid (cs3.length = cs.length) := hlen3
  have f1 : w7.cell? ⟨kb, 0, none⟩ = some (.slice (some ⟨cb7, 0, none⟩) cs.length ccap7) := by rw [hkb7.cell]; rfl
  have f2 : w7.cell? ⟨kb, 1, none⟩ = some (.int .u64 ep) := by rw [hkb7.cell]; rfl
  have f3 : kb < w7.heap.size := hkb7.lt
  obtain ⟨ci1, hci1⟩ : ∃ ci1, ci1 = ci + 1 := ⟨_, rfl⟩
  have HCI1 : Hid (ci1 = ci + 1) := hci1
  have hwci : IntKind.i64.wrap ((ci : Int) + 1) = (ci1 : Int) := by rw [← wrap_nat ci1 (by omega), hci1]; congr 1
  have g1 : ∀ o1 : Obj, (w7.alloc o1).cell? ⟨kb, 0, none⟩ = some (.slice (some ⟨cb7, 0, none⟩) cs.length ccap7) := fun o1 => ((HKB7.out.alloc o1).cell 0).trans rfl
  have g2 : ∀ o1 o2 : Obj, ((w7.alloc o1).alloc o2).cell? ⟨kb, 0, none⟩ = some (.slice (some ⟨cb7, 0, none⟩) cs.length ccap7) := fun o1 o2 => (((HKB7.out.alloc o1).alloc o2).cell 0).trans rfl
  have H49 : Hid (Calls Try.prog 49 #[.slice (some ⟨cb7, 0, none⟩) cs.length ccap7, .int .i64 ci1, .slice (some ⟨w7.heap.size + 1, 0, none⟩) 1 1]
      ((w7.alloc (.cells #[.slice (some ⟨r5, 0, none⟩) (c.ss.length + 1 - h) cap5, .int .u64 ep] 59)).alloc (.cells #[.pointer (some ⟨w7.heap.size, 0, none⟩)] 57)).drew
      fun e w' => RetIns cb7 57 (cs.length + 1) ((cptrs cs3).take ci1 ++ ptr w7.heap.size :: (cptrs cs3).drop ci1) ((w7.alloc (.cells #[.slice (some ⟨r5, 0, none⟩) (c.ss.length + 1 - h) cap5, .int .u64 ep] 59)).alloc (.cells #[.pointer (some ⟨w7.heap.size, 0, none⟩)] 57)).drew e w') :=
    ins49 cb7 ccap7 ci1 (w7.heap.size + 1) cs.length (cptrs cs3) (ptr w7.heap.size) (by rw [cptrs_length, hlen3]) (by omega) hl _ (hg7.imp fun C hC => (hC.alloc _).alloc _) (heap_alloc2_new w7 _ _) (by have := hg7.lt; omega) (fun u hu => by simp [cptrs] at hu; obtain ⟨x, _, rfl⟩ := hu; rfl) rfl
  have HFIN : Hid (∀ w8 r8 cap8, GRow w8 r8 cap8 57 ((cptrs cs3).take ci1 ++ ptr w7.heap.size :: (cptrs cs3).drop ci1) →
      (r8 = cb7 ∨ ((w7.alloc (.cells #[.slice (some ⟨r5, 0, none⟩) (c.ss.length + 1 - h) cap5, .int .u64 ep] 59)).alloc (.cells #[.pointer (some ⟨w7.heap.size, 0, none⟩)] 57)).drew.heap.size ≤ r8) →
      ((w7.alloc (.cells #[.slice (some ⟨r5, 0, none⟩) (c.ss.length + 1 - h) cap5, .int .u64 ep] 59)).alloc (.cells #[.pointer (some ⟨w7.heap.size, 0, none⟩)] 57)).drew.grownBy w8 (some cb7) →
      RetK B kb cs (((cs.map Ch.ss).set ci ((insAt cs[ci].ss key).take ((cs[ci].ss.length + 1) / 2))).take (ci + 1) ++ (insAt cs[ci].ss key).drop ((cs[ci].ss.length + 1) / 2) :: ((cs.map Ch.ss).set ci ((insAt cs[ci].ss key).take ((cs[ci].ss.length + 1) / 2))).drop (ci + 1)) ep sh w (.returned (.tuple #[]))
        (w8.setCell ⟨kb, 0, none⟩ (.slice (some ⟨r8, 0, none⟩) (cs.length + 1) cap8))) := by
    intro w8 r8 cap8 hg8 hr8 hgr8
    have hBw7 : B ≤ w7.heap.size := by have := HK7.out.1; have := hkb7.lt; omega
    have hnew : ChAt B ((w7.alloc (.cells #[.slice (some ⟨r5, 0, none⟩) (c.ss.length + 1 - h) cap5, .int .u64 ep] 59)).alloc (.cells #[.pointer (some ⟨w7.heap.size, 0, none⟩)] 57)).drew ⟨w7.heap.size, r5, cap5, ep, U⟩ := by
      have hB2 : B ≤ w2.heap.size := by have := HCH.out.2.1; omega
      have hB4 : B ≤ w4.heap.size := by have := HGR4.out.size; simp at this; omega
      refine ⟨hBw7, by have := HR5.out; show B ≤ r5; omega, ?_, HROW7.out.imp fun C hC => (hC.alloc _).alloc _⟩
      show Blk _ _ #[.slice (some ⟨r5, 0, none⟩) U.length cap5, .int .u64 ep] 59
      rw [HUL.out]
      exact (Blk.new w7 _ _).alloc _
    have hp3 : w7.heap.size ∉ cs3.map Ch.p := by
      intro hin
      obtain ⟨d, hd, he⟩ := List.mem_map.1 hin
      have := (HK7.out.2.1 d hd).2.2.1.lt; omega
    have harr := arr_step (i := ci1) (c := ⟨w7.heap.size, r5, cap5, ep, U⟩) (w := ((w7.alloc (.cells #[.slice (some ⟨r5, 0, none⟩) (c.ss.length + 1 - h) cap5, .int .u64 ep] 59)).alloc (.cells #[.pointer (some ⟨w7.heap.size, 0, none⟩)] 57)).drew) (w' := w8) (HK7.out.imp fun _ _ _ hb => (hb.alloc _).alloc _) hB7 (by obtain ⟨D, hD⟩ := HG7.out.blk; exact ⟨D, (hD.alloc _).alloc _⟩) hnew hp3 HFRESH.out ((HKB7.out.alloc _).alloc _) hgr8 hr8 hg8
    rw [HLEN3.out] at harr
    obtain ⟨hkF2, hfr2, hp92⟩ := harr
    have hfrw : KFrame B w w2 := ⟨hb2, fun b C t _ _ h7 _ hb => HPASS.out b C t h7 hb⟩
    have hBw2 : B ≤ w2.heap.size := by have := HCH.out.2.1; omega
    refine ⟨rfl, _, hkF2, ?_, ?_, ((hfrw.trans (KFrame.of_below ((Below.refl _ w2).alloc (Nat.le_refl _) _) hBw2)).trans HFR7.out).trans (KFrame.trans ⟨((Below.refl B w7).alloc hBw7 _).alloc (by simp; omega) _ |>.drew, fun b C t _ _ _ _ hb => (hb.alloc _).alloc _⟩ hfr2), ?_⟩
    · rw [List.map_append, List.map_cons, List.map_take, List.map_drop, ← HCS3.out, List.map_set, HCI1.out]
      simp only [← HU.out, ← HT.out, HCSS.out, HH.out]
    · have ho := own_others hci HOUT.out
      have h1 : others ((cs.set ci ⟨c.p, r4, cap4, c.e, T.take h⟩).map Ch.e) ep ≤ others (cs.map Ch.e) ep := by
        rw [List.map_set]; exact others_set (e := c.e) (by simpa using hci) ho
      refine Nat.le_trans ?_ h1
      rw [HCS3.out]
      unfold others
      rw [List.map_append, List.map_cons, List.filter_append, List.filter_cons]
      simp only [bne_self_eq_false, Bool.false_eq_true, if_false]
      rw [← List.filter_append, ← List.map_append, List.take_append_drop]
      exact Nat.le_refl _
    · intro hs d hd he C hC
      exact hp92 _ C (((HP7.out _ C (shared_ne HK.out hci HOUT.out hs hd he) ((HPASS.out _ _ _ (by decide) hC).alloc _)).alloc _).alloc _)
  clear hkF hfr hp9 hcs3 hg7 hkb7 hci1 hset hhl e1 e4 e5 ef hx2 hlen3
  rw [hw7]
  clear hw7
  go_wp2_with fail
  go_region_with (first | (go_at_call 49; refine Calls.mono H49.out ?_; rintro e w8 ⟨r8, cap8, rfl, hg8, hr8, hgr8⟩; have hz1 : w8.cell? ⟨kb, 0, none⟩ = some (.slice (some ⟨cb7, 0, none⟩) cs.length ccap7) := (kb_after HKB7.out HG7.out hgr8).1; have hz2 : w8.frozen? ⟨kb, 0, none⟩ = false := (kb_after HKB7.out HG7.out hgr8).2))
  all_goals
    have HF2 := HFIN.out _ _ _ hg8 hr8 hgr8
    have HF3 : Hid (RetK _ _ _ _ _ _ _ _ _) := HF2
    clear HF2 hg8 hr8 hgr8 hz1 hz2
    go_wp2_with fail
    go_end0
    exact HF3.out
end Go.Proofs.Qxb6619794a
