import Derived.Test.Qxb6619794aKat
import Derived.Test.Qxb6619794aByB
namespace Go.Proofs.Qxb6619794a
open Go.RowKit

theorem others_gt {a b : Nat} (h : a ≤ b) : decide (b < a) = false := by rw [decide_eq_false_iff_not]; omega

set_option maxHeartbeats 8000000 in
theorem law5 (ao : Option Addr) (cap : Nat) (sss : List (List ByteArray)) (eo : Option Addr) (ec : Nat) (es : List Int) (ep : Int) (sh : Bool) (key : ByteArray) (w : World) (hs : RowsAt w ao sss) (he : NumsAt w eo es) :
    Calls Try.prog 5 #[.slice ao sss.length cap, .slice eo es.length ec, .int .u64 ep, .bool sh, .string key] w fun e w' => e = .returned (.bool true) ∧ Below w.heap.size w w' := by
  have HS : Hid (RowsAt w ao sss) := hs
  have HE : Hid (NumsAt w eo es) := he
  clear hs he
  go_enter Try.func5, Try.ntmps5
  go_wp2_with fail
  refine (bytes_30 ao cap sss eo es.length ec ep sh key w HS.out).mono ?_
  rintro e w' ⟨⟨b, rfl, -⟩, hww⟩; subst w'
  cases b
  · go_wp2_with fail
    go_ret
    exact ⟨rfl, Below.refl _ _⟩
  go_wp2_with fail
  refine (sizeOK_any ao cap sss eo es.length ec key w HS.out).mono ?_
  rintro e w' ⟨⟨b, rfl, hsz⟩, hww⟩; subst w'
  cases b
  · go_wp2_with fail
    go_ret
    exact ⟨rfl, Below.refl _ _⟩
  have hsz := hsz rfl
  by_cases hlen : es.length = sss.length
  case neg =>
    have hd : ((es.length : Int) != (sss.length : Int)) = true := by rw [bne_iff_ne]; omega
    go_wp2_with fail
    go_ret
    exact ⟨rfl, Below.refl _ _⟩
  have hd : ((es.length : Int) != (sss.length : Int)) = false := by simp [hlen]
  have HLEN : Hid (es.length = sss.length) := hlen
  have hkey : key.size ≤ 1048576 := by omega
  have hl : sss.length ≤ 1048576 := by omega
  have hle : es.length ≤ 1048576 := by omega
  have hflat : sss.flatten.length ≤ 1048576 := by have := wtt_flat sss; omega
  have HB1 : Hid (∀ ss ∈ sss, ss.length ≤ 2000000) := fun ss h => by have := wtt_mem h; omega
  have HB2 : Hid (∀ ss ∈ sss, ∀ s ∈ ss, s.size ≤ 2000000) := fun ss h s hs => by have := wtt_mem h; have := wt_mem hs; omega
  obtain ⟨fl, hfl⟩ : ∃ fl, sss.flatten = fl := ⟨_, rfl⟩
  have HFL : Hid (sss.flatten = fl) := hfl
  have hfll : fl.length ≤ 1048576 := by rw [← hfl]; exact hflat
  have HB3 : Hid (∀ s ∈ fl, s.size ≤ 2000000) := fun s h => by
    rw [← hfl] at h
    obtain ⟨ss, h1, h2⟩ := List.mem_flatten.1 h
    exact HB2.out ss h1 s h2
  clear hlen hsz hfl
  go_wp2_with fail
  refine (wellFormed_any ao cap sss (by omega) HB2.out w HS.out).mono ?_
  rintro e w1 ⟨b, rfl, hwf, hw1⟩
  cases b
  · go_wp2_with fail
    go_ret
    exact ⟨rfl, hw1.below _⟩
  have HWF : Hid (WF sss) := hwf.1 rfl
  clear hwf
  clear hsz
  have b1 : Below w.heap.size w w1 := hw1.below _
  go_wp2_with fail
  refine (copyKeys_any ao cap sss (by omega) HB1.out HWF.out.ne w1 (HS.out.below b1)).mono ?_
  rintro e w2 ⟨ao1, cap1, rs1, rfl, hown1, hb1⟩
  have HR1 : Hid (RowsAt w2 ao1 sss) := hown1.rowsAt
  have b2 : Below w.heap.size w w2 := b1.trans (hb1.mono b1.size)
  clear hown1
  go_wp2_with fail
  refine (copyU64_any eo ec es (by omega) w2 (HE.out.below b2)).mono ?_
  rintro e w3 ⟨eo1, ec1, rfl, hnum1, hb2⟩
  have HN1 : Hid (NumsAt w3 eo1 es) := hnum1
  have b3 : Below w.heap.size w w3 := b2.trans (hb2.mono b2.size)
  have c3 : Below w2.heap.size w2 w3 := hb2
  clear hnum1
  go_wp2_with fail
  refine (flatten_any ao1 cap1 sss (by omega) (by omega) w3 (HR1.out.below c3)).mono ?_
  rintro e w4 ⟨fo, fcap, he4, hst, hb3⟩
  rw [HFL.out] at he4 hst
  subst he4
  have HF : Hid (StrsAt w4 fo fl) := hst
  have b4 : Below w.heap.size w w4 := b3.trans (hb3.mono b3.size)
  have c4 : Below w2.heap.size w2 w4 := c3.trans (hb3.mono c3.size)
  have HR4 : Hid (RowsAt w4 ao1 sss) := HR1.out.below c4
  have HN4 : Hid (NumsAt w4 eo1 es) := HN1.out.below hb3
  clear hst
  go_wp2_with fail
  refine (has_any fo fcap fl key (by omega) w4 HF.out).mono ?_
  rintro e w' ⟨rfl, hww⟩; subst w'
  cases hq : hasB fl key
  case true =>
    go_wp2_with fail
    go_ret
    exact ⟨rfl, b4⟩
  have HQ : Hid (hasB fl key = false) := hq
  clear hq
  go_wp2_with fail
  refine (copyKeys_any ao1 cap1 sss (by omega) HB1.out HWF.out.ne w4 HR4.out).mono ?_
  rintro e w5 ⟨ao2, cap2, rs2, rfl, hown2, hb4⟩
  have HO2 : Hid (OwnRows w4.heap.size w5 ao2 rs2 sss) := hown2
  have hvl := valsOf_length hown2.1.1
  have HVL : Hid ((valsOf rs2 sss).length = sss.length) := hvl
  clear hown2 hvl
  go_wp2_with fail
  refine (copyU64_any eo1 ec1 es (by omega) w5 (HN4.out.below hb4)).mono ?_
  rintro e w6 ⟨eo2, ec2, rfl, hnum2, hb5⟩
  have h15 := make_any ao2 cap2 (valsOf rs2 sss) eo2 ec2 es ep sh (by rw [HVL.out]; omega) (by rw [HVL.out]; exact HLEN.out) w6 (HO2.out.slicesAt.below hb5) hnum2
  rw [HVL.out] at h15
  have H15 : Hid _ := h15
  clear h15 hnum2
  go_wp2_with fail
  refine Calls.mono H15.out ?_
  rintro e w7 ⟨kb, ps, rfl, hsk, hb6⟩
  have f7 : Below w5.heap.size w5 w7 := hb5.trans (hb6.mono hb5.size)
  have g7 : Below w4.heap.size w4 w7 := hb4.trans (f7.mono hb4.size)
  obtain ⟨cs, hkat, hcss, hces⟩ := hsk.kat (HO2.out.1.below f7 (Nat.le_refl _)) (by have := hb4.size; have := hb5.size; omega) HB1.out
  have HK7 : Hid (KAt w4.heap.size w7 kb cs ep sh) := hkat
  have HCS : Hid (cs.map Ch.ss = sss) := hcss
  have HCE : Hid (cs.map Ch.e = es) := hces
  have hcl : cs.length = sss.length := by rw [← hcss]; simp
  have HCL : Hid (cs.length = sss.length) := hcl
  clear hsk H15 hkat hcss hces hcl HO2 HVL
  go_wp2_with fail
  refine (sharedArrays_any w4.heap.size kb cs ep sh eo1 ec1 es HCE.out (by rw [HCL.out]; omega) w7 HK7.out (HN4.out.below g7)).mono ?_
  rintro e w8 ⟨v1, v2, ids, ts, rfl, hi8, ht8, hsel, hsf, hb7⟩
  have HK8 : Hid (KAt w4.heap.size w8 kb cs ep sh) := HK7.out.below hb7
  obtain ⟨io, ic, rfl, -⟩ := hi8.idx
  obtain ⟨so, sc, rfl, -⟩ := ht8.slices
  have HI8 : Hid (OwnI w8 w7.heap.size (.slice io ids.length ic) ids) := hi8
  have HT8 : Hid (OwnT w8 w7.heap.size (.slice so ts.length sc) ts) := ht8
  have HSEL : Hid (Sel cs ep cs.length ids ts) := hsel
  have HSF : Hid (sh = false → ids = []) := hsf
  have g8 : Below w4.heap.size w4 w8 := g7.trans (hb7.mono g7.size)
  clear hi8 ht8 hsel hsf
  go_wp2_with fail
  refine (zzinsert_any w4.heap.size kb cs key ep sh w8 HK8.out (by rw [HCS.out]; exact HWF.out) (by rw [HCL.out]; omega)).mono ?_
  rintro e w9 ⟨rfl, cs2, hk9, hss9, hoth, hfr, hshd⟩
  rw [HCS.out] at hss9
  rw [HCE.out] at hoth
  obtain ⟨s2, hs2⟩ : ∃ s2, insSpec sss key = s2 := ⟨_, rfl⟩
  obtain ⟨e2, he2⟩ : ∃ e2, cs2.map Ch.e = e2 := ⟨_, rfl⟩
  obtain ⟨fl2, hfl2⟩ : ∃ fl2, insAt fl key = fl2 := ⟨_, rfl⟩
  have hno : hasB sss.flatten key = false := by rw [HFL.out]; exact HQ.out
  have hwf2 := insSpec_wf HWF.out hno
  have hfla2 := insSpec_flat (key := key) HWF.out
  have hlen2 := insSpec_len (key := key) HWF.out
  have hil := insAt_length fl key
  have hmem : ∀ s ∈ insAt fl key, s.size ≤ 2000000 := by
    intro s hs
    unfold insAt at hs
    rcases List.mem_append.1 hs with g | g
    · exact HB3.out s (List.mem_of_mem_take g)
    · rcases List.mem_cons.1 g with rfl | g
      · omega
      · exact HB3.out s (List.mem_of_mem_drop g)
  rw [HFL.out] at hfla2
  rw [hfl2] at hfla2 hil hmem
  rw [hs2] at hss9 hwf2 hfla2 hlen2
  rw [he2] at hoth
  have HK9 : Hid (KAt w4.heap.size w9 kb cs2 ep sh) := hk9
  have HS9 : Hid (cs2.map Ch.ss = s2) := hss9
  have HE9 : Hid (cs2.map Ch.e = e2) := he2
  have HWF2 : Hid (WF s2) := hwf2
  have HFLA2 : Hid (s2.flatten = fl2) := hfla2
  have HFL2 : Hid (insAt fl key = fl2) := hfl2
  have HOTH : Hid (others e2 ep ≤ others es ep) := hoth
  obtain ⟨hlen2a, hlen2b⟩ := hlen2
  have HM2 : Hid (∀ s ∈ fl2, s.size ≤ 2000000) := hmem
  have HEL2 : Hid (e2.length = s2.length) := by unfold Hid; rw [← he2, ← hss9]; simp
  have hfl2l : fl2.length ≤ 1048577 := by omega
  have HC9 : Hid (∀ ss ∈ s2, ss.length ≤ 2000000) := fun ss h => by have := (hwf2.size ss h).2; omega
  have HD9 : Hid (∀ ss ∈ s2, ∀ s ∈ ss, s.size ≤ 2000000) := fun ss h s hs => hmem s (by rw [← hfla2]; exact List.mem_flatten.2 ⟨ss, h, hs⟩)
  have HI9 : Hid (OwnI w9 w7.heap.size (.slice io ids.length ic) ids) := own_imp HI8.out fun b C => hfr.2 b C 3 (by decide) (by decide) (by decide) (by decide)
  have HT9 : Hid (OwnT w9 w7.heap.size (.slice so ts.length sc) ts) := own_imp HT8.out fun b C => hfr.2 b C 30 (by decide) (by decide) (by decide) (by decide)
  have hall := shared_after HK8.out HSEL.out HSF.out hshd
  rw [HCS.out] at hall
  have HALL : Hid (∀ j (h : j < ids.length) (h2 : j < ts.length), ∃ hc : ids[j] < sss.length, ts[j].2.1 = sss[ids[j]].length ∧ StrsAt w9 ts[j].1 sss[ids[j]]) := hall
  have g9 : Below w4.heap.size w4 w9 := g8.trans hfr.1
  have b9 : Below w.heap.size w w9 := b4.trans (g9.mono b4.size)
  clear hk9 hss9 he2 hwf2 hfla2 hfl2 hoth hmem hil hno hs2 hfr hshd hall
  have hdl : decide (s2.length < sss.length) = false := by rw [decide_eq_false_iff_not]; omega
  go_wp2_with fail
  refine (readBack_any w4.heap.size kb cs2 ep sh (sss.length + 1) s2 e2 HS9.out HE9.out (by omega) HC9.out (by omega) w9 HK9.out).mono ?_
  rintro e w10 ⟨ao3, cap3, eo3, ec3, rfl, hrows3, hnums3, hb9⟩
  have HR10 : Hid (RowsAt w10 ao3 s2) := hrows3
  have HN10 : Hid (NumsAt w10 eo3 e2) := hnums3
  clear hrows3 hnums3
  go_wp2_with fail
  refine (wellFormed_any ao3 cap3 s2 (by omega) HD9.out w10 HR10.out).mono ?_
  rintro e w11 ⟨b, rfl, hwf3, hw11⟩
  have : b = true := hwf3.2 HWF2.out
  subst this
  clear hwf3
  have k11 : Below w10.heap.size w10 w11 := hw11.below _
  go_wp2_with fail
  refine (flatten_any ao3 cap3 s2 (by omega) (by rw [HFLA2.out]; omega) w11 (HR10.out.below k11)).mono ?_
  rintro e w12 ⟨fo3, fcap3, he12, hst, hb11⟩
  rw [HFLA2.out] at he12 hst
  subst he12
  have HF12 : Hid (StrsAt w12 fo3 fl2) := hst
  have k12 : Below w9.heap.size w9 w12 := (hb9.trans (k11.mono hb9.size)).trans (hb11.mono (by have := hb9.size; have := k11.size; omega))
  have g12 : Below w4.heap.size w4 w12 := g9.trans (k12.mono g9.size)
  clear hst
  have h32 := insertSorted_any fo fcap fl key (by omega) HB3.out (by omega) (by rw [← HFL.out]; exact HWF.out.flat_asc) HQ.out w12 (HF.out.below g12)
  rw [HFL2.out] at h32
  have H32 : Hid _ := h32
  clear h32
  go_wp2_with fail
  refine Calls.mono H32.out ?_
  rintro e w13 ⟨fo4, fcap4, rfl, hst4, hb12⟩
  have HF13 : Hid (StrsAt w13 fo4 fl2) := hst4
  clear hst4
  go_wp2_with fail
  refine (equal_same fo3 fo4 fcap3 fcap4 fl2 (by omega) w13 (HF12.out.below hb12) HF13.out).mono ?_
  rintro e w14 ⟨rfl, hw14⟩
  have k14 : Below w9.heap.size w9 w14 := (k12.trans (hb12.mono k12.size)).trans (hw14.below _)
  have m14 : Below w10.heap.size w10 w14 := ((k11.trans (hb11.mono k11.size)).trans (hb12.mono (by have := k11.size; have := hb11.size; omega))).trans (hw14.below _)
  have g14 : Below w4.heap.size w4 w14 := g9.trans (k14.mono g9.size)
  have HK14 : Hid (KAt w4.heap.size w14 kb cs2 ep sh) := HK9.out.below k14
  have b14 : Below w.heap.size w w14 := b9.trans (k14.mono b9.size)
  have hog := others_gt HOTH.out
  have hee : (ep != ep) = false := by simp
  have hss : (sh != sh) = false := by simp
  go_wp2_with fail
  refine (zzepoch w4.heap.size kb cs2 ep sh w14 HK14.out).mono ?_
  rintro e w' ⟨rfl, hww⟩; subst w'
  go_wp2_with fail
  refine (zzsharing w4.heap.size kb cs2 ep sh w14 HK14.out).mono ?_
  rintro e w' ⟨rfl, hww⟩; subst w'
  go_wp2_with fail
  refine (countOther_any eo3 ec3 e2 ep (by have := HEL2.out; omega) w14 (HN10.out.below m14)).mono ?_
  rintro e w' ⟨rfl, hww⟩; subst w'
  go_wp2_with fail
  refine (countOther_any eo1 ec1 es ep (by omega) w14 (HN4.out.below g14)).mono ?_
  rintro e w' ⟨rfl, hww⟩; subst w'
  go_wp2_with fail
  obtain ⟨io', ic', hvi, hidx⟩ := HI9.out.idx
  obtain ⟨so', sc', hvs, hslc⟩ := HT9.out.slices
  cases hvi
  cases hvs
  refine (untouched_any ao1 cap1 sss io ic ids so sc ts HSEL.out.1 (by have := HSEL.out.2.1; have := HCL.out; omega) HB1.out w14 (HR4.out.below g14) (hidx.below k14) (hslc.below k14) ?_).mono ?_
  · intro j h h2
    obtain ⟨q1, q2, q3⟩ := HALL.out j h h2
    exact ⟨q1, q2, q3.below k14⟩
  rintro e w15 ⟨rfl, hw15⟩
  go_wp2_with fail
  go_ret
  exact ⟨rfl, b14.trans (hw15.below _)⟩
end Go.Proofs.Qxb6619794a
