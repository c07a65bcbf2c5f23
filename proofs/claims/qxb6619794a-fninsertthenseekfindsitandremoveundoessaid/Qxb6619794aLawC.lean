import Derived.Test.Qxb6619794aKmany
namespace Go.Proofs.Qxb6619794a
open Go.RowKit

theorem remove_any (B kb : Nat) (cs : List Ch) (key : ByteArray) (ep : Int) (sh : Bool) (w : World) (hk : KAt B w kb cs ep sh) (hwf : WF (cs.map Ch.ss)) (hl : cs.length ≤ 2000000) (hin : key ∈ (cs.map Ch.ss).flatten) :
    Calls Try.prog 37 #[.pointer (some ⟨kb, 0, none⟩), .string key] w fun e w' => RetRem B kb cs key ep sh w e w' := by
  obtain ⟨ci, hc⟩ : ∃ ci, chunkIx (cs.map Ch.ss) key = ci := ⟨_, rfl⟩
  obtain ⟨hci, ha, hd, hhas, hb⟩ := key_place hwf hin hc
  have hci' : ci < cs.length := by simpa using hci
  have e : (cs.map Ch.ss)[ci] = cs[ci].ss := by simp
  have hone := rem_one hwf hci ha hd hb
  have hset := rem_set hwf hci ha hd hb
  rw [e] at hhas hb hone hset
  rcases Nat.lt_or_ge 1 cs[ci].ss.length with g | g
  · exact remove_many B kb cs key ep sh w hk hwf hl ci hc hci' hhas hb g (hset g)
  · have h1 : cs[ci].ss.length = 1 := by omega
    exact (remove_one B kb cs key ep sh w hk hwf hl ci hc hci' hhas hb h1).mono fun e w' h => ⟨_, h, hone h1⟩

set_option maxHeartbeats 1000000 in
theorem zzremove_any (B kb : Nat) (cs : List Ch) (key : ByteArray) (ep : Int) (sh : Bool) (w : World) (hk : KAt B w kb cs ep sh) (hwf : WF (cs.map Ch.ss)) (hl : cs.length ≤ 2000000) (hin : key ∈ (cs.map Ch.ss).flatten) :
    Calls Try.prog 17 #[.pointer (some ⟨kb, 0, none⟩), .string key] w fun e w' => RetRem B kb cs key ep sh w e w' := by
  have H := remove_any B kb cs key ep sh w hk hwf hl hin
  have HI : Hid _ := H
  clear H hk hwf hin
  go_enter Try.func17, Try.ntmps17
  go_wp2_with fail
  refine Calls.mono HI.out ?_
  rintro e w2 ⟨s', ⟨rfl, hr⟩, hrem⟩
  have HR : Hid (RetRem B kb cs key ep sh w (.returned (.tuple #[])) w2) := ⟨s', ⟨rfl, hr⟩, hrem⟩
  clear hr hrem
  go_wp2_with fail
  go_end0
  exact HR.out

theorem flat_get {sss : List (List ByteArray)} {a b : Nat} (ha : a < sss.length) (hb : b < sss[a].length) : sss.flatten[pre sss a + b]? = some sss[a][b] := by
  rw [flat_at ha]
  unfold pre
  rw [List.getElem?_append_right (by omega), Nat.add_sub_cancel_left, List.getElem?_append_left hb, List.getElem?_eq_getElem hb]

theorem below_insAt {l : List ByteArray} {key : ByteArray} (h : Asc l) : below (insAt l key) key = below l key := by
  have hb := below_le l key
  unfold insAt
  rw [below_append, below_cons, ltB_irrefl]
  have h1 : below (l.take (below l key)) key = (l.take (below l key)).length := below_all fun x hx => by
    obtain ⟨j, hj, hjb, rfl⟩ := mem_take_get hx
    exact (below_iff h hj).2 hjb
  have h2 : below (l.drop (below l key)) key = 0 := below_none fun y hy => by
    obtain ⟨j, hj, hjb, rfl⟩ := mem_drop_get hy
    cases hq : ltB l[j] key
    · rfl
    · have := (below_iff h hj).1 hq; omega
  rw [h1, h2, List.length_take]; simp; omega

theorem insAt_get (l : List ByteArray) (key : ByteArray) : (insAt l key)[below l key]? = some key := by
  have hb := below_le l key
  unfold insAt
  rw [List.getElem?_append_right (by rw [List.length_take]; omega), List.length_take, Nat.min_eq_left hb, Nat.sub_self]; rfl

/-- Seek finds the key that has been laid in. -/
theorem seek_found {s2 : List (List ByteArray)} {fl : List ByteArray} {key : ByteArray} {a b : Nat} (hA : Asc fl) (hf : s2.flatten = insAt fl key) (h : SeekAns s2 key a b) : ∃ ha : a < s2.length, ∃ hb : b < s2[a].length, s2[a][b] = key := by
  have e := below_insAt (key := key) hA
  have hl := insAt_length fl key
  have hb := below_le fl key
  rcases h with ⟨ha, hb1, hp⟩ | ⟨_, _, h3⟩
  · refine ⟨ha, hb1, ?_⟩
    have h1 := flat_get ha hb1
    rw [hp, hf, e, insAt_get] at h1
    exact (Option.some.inj h1).symm
  · rw [hf, e] at h3; omega

set_option maxHeartbeats 8000000 in
theorem law6 (ao : Option Addr) (cap : Nat) (sss : List (List ByteArray)) (eo : Option Addr) (ec : Nat) (es : List Int) (ep : Int) (sh : Bool) (key : ByteArray) (w : World) (hs : RowsAt w ao sss) (he : NumsAt w eo es) :
    Calls Try.prog 6 #[.slice ao sss.length cap, .slice eo es.length ec, .int .u64 ep, .bool sh, .string key] w fun e w' => e = .returned (.bool true) ∧ Below w.heap.size w w' := by
  have HS : Hid (RowsAt w ao sss) := hs
  have HE : Hid (NumsAt w eo es) := he
  clear hs he
  go_enter Try.func6, Try.ntmps6
  go_wp2_with fail
  refine (bytes_33 ao cap sss eo es.length ec ep sh key w HS.out).mono ?_
  rintro e w' ⟨⟨b, rfl, -⟩, hww⟩; subst w'
  cases b
  · go_wp2_with fail
    go_ret
    exact ⟨rfl, Below.refl _ _⟩
  go_wp2_with fail
  refine (sizeOK_any ao cap sss eo es.length ec key w HS.out).mono ?_
  rintro e w' ⟨⟨b, rfl, hsz⟩, hww⟩; subst w'
  cases b
  · go_wp2_with fail
    go_ret
    exact ⟨rfl, Below.refl _ _⟩
  have hsz := hsz rfl
  by_cases hlen : es.length = sss.length
  case neg =>
    have hd : ((es.length : Int) != (sss.length : Int)) = true := by rw [bne_iff_ne]; omega
    go_wp2_with fail
    go_ret
    exact ⟨rfl, Below.refl _ _⟩
  have hd : ((es.length : Int) != (sss.length : Int)) = false := by simp [hlen]
  have HLEN : Hid (es.length = sss.length) := hlen
  have hkey : key.size ≤ 1048576 := by omega
  have hl : sss.length ≤ 1048576 := by omega
  have hle : es.length ≤ 1048576 := by omega
  have hflat : sss.flatten.length ≤ 1048576 := by have := wtt_flat sss; omega
  have HB1 : Hid (∀ ss ∈ sss, ss.length ≤ 2000000) := fun ss h => by have := wtt_mem h; omega
  have HB2 : Hid (∀ ss ∈ sss, ∀ s ∈ ss, s.size ≤ 2000000) := fun ss h s hs => by have := wtt_mem h; have := wt_mem hs; omega
  obtain ⟨fl, hfl⟩ : ∃ fl, sss.flatten = fl := ⟨_, rfl⟩
  have HFL : Hid (sss.flatten = fl) := hfl
  have hfll : fl.length ≤ 1048576 := by rw [← hfl]; exact hflat
  have HB3 : Hid (∀ s ∈ fl, s.size ≤ 2000000) := fun s h => by
    rw [← hfl] at h
    obtain ⟨ss, h1, h2⟩ := List.mem_flatten.1 h
    exact HB2.out ss h1 s h2
  clear hlen hsz hfl
  go_wp2_with fail
  refine (wellFormed_any ao cap sss (by omega) HB2.out w HS.out).mono ?_
  rintro e w1 ⟨b, rfl, hwf, hw1⟩
  cases b
  · go_wp2_with fail
    go_ret
    exact ⟨rfl, hw1.below _⟩
  have HWF : Hid (WF sss) := hwf.1 rfl
  clear hwf
  clear hsz
  have b1 : Below w.heap.size w w1 := hw1.below _
  go_wp2_with fail
  refine (copyKeys_any ao cap sss (by omega) HB1.out HWF.out.ne w1 (HS.out.below b1)).mono ?_
  rintro e w2 ⟨ao1, cap1, rs1, rfl, hown1, hb1⟩
  have HR1 : Hid (RowsAt w2 ao1 sss) := hown1.rowsAt
  have b2 : Below w.heap.size w w2 := b1.trans (hb1.mono b1.size)
  clear hown1
  go_wp2_with fail
  refine (copyU64_any eo ec es (by omega) w2 (HE.out.below b2)).mono ?_
  rintro e w3 ⟨eo1, ec1, rfl, hnum1, hb2⟩
  have HN1 : Hid (NumsAt w3 eo1 es) := hnum1
  have b3 : Below w.heap.size w w3 := b2.trans (hb2.mono b2.size)
  have c3 : Below w2.heap.size w2 w3 := hb2
  clear hnum1
  go_wp2_with fail
  refine (flatten_any ao1 cap1 sss (by omega) (by omega) w3 (HR1.out.below c3)).mono ?_
  rintro e w4 ⟨fo, fcap, he4, hst, hb3⟩
  rw [HFL.out] at he4 hst
  subst he4
  have HF : Hid (StrsAt w4 fo fl) := hst
  have b4 : Below w.heap.size w w4 := b3.trans (hb3.mono b3.size)
  have c4 : Below w2.heap.size w2 w4 := c3.trans (hb3.mono c3.size)
  have HR4 : Hid (RowsAt w4 ao1 sss) := HR1.out.below c4
  have HN4 : Hid (NumsAt w4 eo1 es) := HN1.out.below hb3
  clear hst
  go_wp2_with fail
  refine (has_any fo fcap fl key (by omega) w4 HF.out).mono ?_
  rintro e w' ⟨rfl, hww⟩; subst w'
  cases hq : hasB fl key
  case true =>
    go_wp2_with fail
    go_ret
    exact ⟨rfl, b4⟩
  have HQ : Hid (hasB fl key = false) := hq
  clear hq
  go_wp2_with fail
  refine (copyKeys_any ao1 cap1 sss (by omega) HB1.out HWF.out.ne w4 HR4.out).mono ?_
  rintro e w5 ⟨ao2, cap2, rs2, rfl, hown2, hb4⟩
  have HO2 : Hid (OwnRows w4.heap.size w5 ao2 rs2 sss) := hown2
  have hvl := valsOf_length hown2.1.1
  have HVL : Hid ((valsOf rs2 sss).length = sss.length) := hvl
  clear hown2 hvl
  go_wp2_with fail
  refine (copyU64_any eo1 ec1 es (by omega) w5 (HN4.out.below hb4)).mono ?_
  rintro e w6 ⟨eo2, ec2, rfl, hnum2, hb5⟩
  have h15 := make_any ao2 cap2 (valsOf rs2 sss) eo2 ec2 es ep sh (by rw [HVL.out]; omega) (by rw [HVL.out]; exact HLEN.out) w6 (HO2.out.slicesAt.below hb5) hnum2
  rw [HVL.out] at h15
  have H15 : Hid _ := h15
  clear h15 hnum2
  go_wp2_with fail
  refine Calls.mono H15.out ?_
  rintro e w7 ⟨kb, ps, rfl, hsk, hb6⟩
  have f7 : Below w5.heap.size w5 w7 := hb5.trans (hb6.mono hb5.size)
  have g7 : Below w4.heap.size w4 w7 := hb4.trans (f7.mono hb4.size)
  obtain ⟨cs, hkat, hcss, hces⟩ := hsk.kat (HO2.out.1.below f7 (Nat.le_refl _)) (by have := hb4.size; have := hb5.size; omega) HB1.out
  have HK7 : Hid (KAt w4.heap.size w7 kb cs ep sh) := hkat
  have HCS : Hid (cs.map Ch.ss = sss) := hcss
  have HCE : Hid (cs.map Ch.e = es) := hces
  have hcl : cs.length = sss.length := by rw [← hcss]; simp
  have HCL : Hid (cs.length = sss.length) := hcl
  clear hsk H15 hkat hcss hces hcl HO2 HVL
  go_wp2_with fail
  refine (zzinsert_any w4.heap.size kb cs key ep sh w7 HK7.out (by rw [HCS.out]; exact HWF.out) (by rw [HCL.out]; omega)).mono ?_
  rintro e w9 ⟨rfl, cs2, hk9, hss9, hoth, hfr, -⟩
  rw [HCS.out] at hss9
  rw [HCE.out] at hoth
  obtain ⟨s2, hs2⟩ : ∃ s2, insSpec sss key = s2 := ⟨_, rfl⟩
  obtain ⟨e2, he2⟩ : ∃ e2, cs2.map Ch.e = e2 := ⟨_, rfl⟩
  obtain ⟨fl2, hfl2⟩ : ∃ fl2, insAt fl key = fl2 := ⟨_, rfl⟩
  have hno : hasB sss.flatten key = false := by rw [HFL.out]; exact HQ.out
  have hwf2 := insSpec_wf HWF.out hno
  have hfla2 := insSpec_flat (key := key) HWF.out
  have hlen2 := insSpec_len (key := key) HWF.out
  have hil := insAt_length fl key
  have hAfl : Asc fl := by rw [← HFL.out]; exact HWF.out.flat_asc
  have HAFL : Hid (Asc fl) := hAfl
  have hbi := below_insAt (key := key) hAfl
  have hri := remAt_insAt (key := key) hAfl
  have hkin : key ∈ insAt fl key := by unfold insAt; simp
  have hmem : ∀ s ∈ insAt fl key, s.size ≤ 2000000 := by
    intro s hs
    unfold insAt at hs
    rcases List.mem_append.1 hs with g | g
    · exact HB3.out s (List.mem_of_mem_take g)
    · rcases List.mem_cons.1 g with rfl | g
      · omega
      · exact HB3.out s (List.mem_of_mem_drop g)
  rw [HFL.out] at hfla2
  have HFI : Hid (fl2 = insAt fl key) := hfl2.symm
  rw [hfl2] at hfla2 hil hmem hbi hri hkin
  rw [hs2] at hss9 hwf2 hfla2 hlen2
  have HK9 : Hid (KAt w4.heap.size w9 kb cs2 ep sh) := hk9
  have HS9 : Hid (cs2.map Ch.ss = s2) := hss9
  have HE9 : Hid (cs2.map Ch.e = e2) := he2
  have HWF2 : Hid (WF s2) := hwf2
  have HFLA2 : Hid (s2.flatten = fl2) := hfla2
  have HOTH : Hid (others (cs2.map Ch.e) ep ≤ others es ep) := hoth
  have HBI : Hid (below fl2 key = below fl key) := hbi
  have HRI : Hid (remAt fl2 key = fl) := hri
  have HKIN : Hid (key ∈ fl2) := hkin
  obtain ⟨hlen2a, hlen2b⟩ := hlen2
  have HM2 : Hid (∀ s ∈ fl2, s.size ≤ 2000000) := hmem
  have HCL2 : Hid (cs2.length = s2.length) := by unfold Hid; rw [← hss9]; simp
  have hfl2l : fl2.length ≤ 1048577 := by omega
  have HC9 : Hid (∀ ss ∈ s2, ss.length ≤ 2000000) := fun ss h => by have := (hwf2.size ss h).2; omega
  have HD9 : Hid (∀ ss ∈ s2, ∀ s ∈ ss, s.size ≤ 2000000) := fun ss h s hs => hmem s (by rw [← hfla2]; exact List.mem_flatten.2 ⟨ss, h, hs⟩)
  have g9 : Below w4.heap.size w4 w9 := g7.trans hfr.1
  have b9 : Below w.heap.size w w9 := b4.trans (g9.mono b4.size)
  have HKV9 : Hid (KView w9 kb s2) := by have := hk9.kview; rw [hss9] at this; exact this
  clear hk9 hss9 he2 hwf2 hfla2 hfl2 hoth hmem hil hno hs2 hfr hbi hri hkin hAfl
  go_wp2_with fail
  refine (readBack_any w4.heap.size kb cs2 ep sh (sss.length + 1) s2 e2 HS9.out HE9.out (by omega) HC9.out (by omega) w9 HK9.out).mono ?_
  rintro e w10 ⟨ao3, cap3, eo3, ec3, rfl, hrows3, -, hb9⟩
  have HR10 : Hid (RowsAt w10 ao3 s2) := hrows3
  have HK10 : Hid (KAt w4.heap.size w10 kb cs2 ep sh) := HK9.out.below hb9
  have g10 : Below w4.heap.size w4 w10 := g9.trans (hb9.mono g9.size)
  have b10 : Below w.heap.size w w10 := b9.trans (hb9.mono b9.size)
  have HKV10 : Hid (KView w10 kb s2) := HKV9.out.still hb9
  clear hrows3
  go_wp2_with fail
  refine (zzseek_any kb s2 key (by omega) HC9.out HWF2.out w10 HKV10.out).mono ?_
  rintro e w11 ⟨a, b, rfl, hans, hb10⟩
  have HANS : Hid (SeekAns s2 key a b) := hans
  obtain ⟨hal, hbl, hkey2⟩ := seek_found HAFL.out (by rw [HFLA2.out, HFI.out]) hans
  have HAL : Hid (a < s2.length) := hal
  have HKEY2 : Hid (s2[a][b] = key) := hkey2
  clear hans hkey2
  have HR11 : Hid (RowsAt w11 ao3 s2) := HR10.out.below hb10
  have g11 : Below w4.heap.size w4 w11 := g10.trans (hb10.mono g10.size)
  have b11 : Below w.heap.size w w11 := b10.trans (hb10.mono b10.size)
  have HK11 : Hid (KAt w4.heap.size w11 kb cs2 ep sh) := HK10.out.below hb10
  have p1 := flatPos_any ao3 cap3 s2 key a b (by omega) (by rw [HFLA2.out]; omega) w11 HR11.out HANS.out
  rw [HFLA2.out, HBI.out] at p1
  have P1 : Hid _ := p1
  clear p1
  go_wp2_with fail
  refine Calls.mono P1.out ?_
  rintro e w' ⟨rfl, hww⟩; subst w'
  have hda : decide (s2.length ≤ a) = false := by rw [decide_eq_false_iff_not]; omega
  go_wp2_with fail
  refine (countBelow_any fo fcap fl key (by omega) HB3.out (by omega) w11 (HF.out.below g11)).mono ?_
  rintro e w12 ⟨rfl, hw12⟩
  have hs12 : Still w11 w12 := hw12
  clear hw12
  have g12 : Below w4.heap.size w4 w12 := g11.trans (hs12.below _)
  have b12 : Below w.heap.size w w12 := b11.trans (hs12.below _)
  have HK12 : Hid (KAt w4.heap.size w12 kb cs2 ep sh) := HK11.out.below (hs12.below _)
  obtain ⟨rb, ro, rc, rcc, hao3, hrc, hrs⟩ := HR11.out.still hs12 a hal
  obtain ⟨sb, so, hrc1, hsc⟩ := hrs b hbl
  subst hrc1
  subst hao3
  have hsc2 := hsc.trans (congrArg (fun s => some (Value.string s)) HKEY2.out)
  clear hsc
  have hsc : w12.cell? ⟨sb, so + b, none⟩ = some (.string key) := hsc2
  clear hsc2
  have hxa : (a : Int) < (s2.length : Int) := by omega
  have hxb : (b : Int) < (s2[a].length : Int) := by omega
  clear HKEY2 hrs hbl
  generalize s2[a].length = la at *
  go_wp2_with fail
  refine (zzremove_any w4.heap.size kb cs2 key ep sh w12 HK12.out (by rw [HS9.out]; exact HWF2.out) (by rw [HCL2.out]; omega) (by rw [HS9.out, HFLA2.out]; exact HKIN.out)).mono ?_
  rintro e w13 ⟨s3, ⟨rfl, cs3, hk13, hss13, hoth13, hfr13, -⟩, hrem⟩
  rw [HS9.out] at hrem
  have hfla3 := hrem.1
  rw [HFLA2.out, HRI.out] at hfla3
  have HFLA3 : Hid (s3.flatten = fl) := hfla3
  have HWF3 : Hid (WF s3) := wf_of hrem.2.1 (by rw [hfla3]; exact HAFL.out)
  have hlen3 : s3.length ≤ s2.length := hrem.2.2
  have HOTH3 : Hid (others (cs3.map Ch.e) ep ≤ others es ep) := Nat.le_trans hoth13 HOTH.out
  obtain ⟨e3, he3⟩ : ∃ e3, cs3.map Ch.e = e3 := ⟨_, rfl⟩
  rw [he3] at HOTH3
  have HC13 : Hid (∀ ss ∈ s3, ss.length ≤ 2000000) := fun ss h => by have := (hrem.2.1 ss h).2; omega
  have HD13 : Hid (∀ ss ∈ s3, ∀ s ∈ ss, s.size ≤ 2000000) := fun ss h s hs => HB3.out s (by rw [← hfla3]; exact List.mem_flatten.2 ⟨ss, h, hs⟩)
  have HEL3 : Hid (e3.length = s3.length) := by unfold Hid; rw [← he3, ← hss13]; simp
  have HK13 : Hid (KAt w4.heap.size w13 kb cs3 ep sh) := hk13
  have HS13 : Hid (cs3.map Ch.ss = s3) := hss13
  have HE13 : Hid (cs3.map Ch.e = e3) := he3
  have g13 : Below w4.heap.size w4 w13 := g12.trans hfr13.1
  have b13 : Below w.heap.size w w13 := b4.trans (g13.mono b4.size)
  clear hrem hfla3 hk13 hss13 hoth13 hfr13 he3 hrc hsc
  go_wp2_with fail
  refine (readBack_any w4.heap.size kb cs3 ep sh (sss.length + 1) s3 e3 HS13.out HE13.out (by omega) HC13.out (by omega) w13 HK13.out).mono ?_
  rintro e w14 ⟨ao4, cap4, eo4, ec4, rfl, hrows4, hnums4, hb13⟩
  have HR14 : Hid (RowsAt w14 ao4 s3) := hrows4
  have HN14 : Hid (NumsAt w14 eo4 e3) := hnums4
  have g14 : Below w4.heap.size w4 w14 := g13.trans (hb13.mono g13.size)
  have b14 : Below w.heap.size w w14 := b13.trans (hb13.mono b13.size)
  clear hrows4 hnums4
  go_wp2_with fail
  refine (wellFormed_any ao4 cap4 s3 (by omega) HD13.out w14 HR14.out).mono ?_
  rintro e w15 ⟨bb, rfl, hwf3, hw15⟩
  have : bb = true := hwf3.2 HWF3.out
  subst this
  clear hwf3
  have k15 : Below w14.heap.size w14 w15 := hw15.below _
  go_wp2_with fail
  refine (flatten_any ao4 cap4 s3 (by omega) (by rw [HFLA3.out]; omega) w15 (HR14.out.below k15)).mono ?_
  rintro e w16 ⟨fo4, fcap4, he16, hst, hb15⟩
  rw [HFLA3.out] at he16 hst
  subst he16
  have HF16 : Hid (StrsAt w16 fo4 fl) := hst
  have k16 : Below w14.heap.size w14 w16 := k15.trans (hb15.mono k15.size)
  have g16 : Below w4.heap.size w4 w16 := g14.trans (k16.mono g14.size)
  clear hst
  go_wp2_with fail
  refine (equal_same fo4 fo fcap4 fcap fl (by omega) w16 HF16.out (HF.out.below g16)).mono ?_
  rintro e w17 ⟨rfl, hw17⟩
  have k17 : Below w14.heap.size w14 w17 := k16.trans (hw17.below _)
  have g17 : Below w4.heap.size w4 w17 := g16.trans (hw17.below _)
  have b17 : Below w.heap.size w w17 := b14.trans (k17.mono b14.size)
  go_wp2_with fail
  refine (countOther_any eo4 ec4 e3 ep (by have := HEL3.out; omega) w17 (HN14.out.below k17)).mono ?_
  rintro e w' ⟨rfl, hww⟩; subst w'
  go_wp2_with fail
  refine (countOther_any eo1 ec1 es ep (by omega) w17 (HN4.out.below g17)).mono ?_
  rintro e w' ⟨rfl, hww⟩; subst w'
  have hfin : decide (others e3 ep ≤ others es ep) = true := by rw [decide_eq_true_iff]; exact HOTH3.out
  go_wp2_with fail
  go_ret
  refine ⟨?_, b17⟩
  simp
end Go.Proofs.Qxb6619794a
