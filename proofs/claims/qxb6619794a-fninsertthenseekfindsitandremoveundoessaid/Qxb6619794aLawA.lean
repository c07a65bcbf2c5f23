import Derived.Test.Qxb6619794aOrd
import Derived.Test.Qxb6619794aByA
namespace Go.Proofs.Qxb6619794a
open Go.RowKit

theorem WF.ne {sss : List (List ByteArray)} (h : WF sss) : ∀ ss ∈ sss, 0 < ss.length := by
  intro ss hs
  obtain ⟨q, hq, rfl⟩ := List.mem_iff_getElem.1 hs
  exact (h q hq).1

/-- Where seek stands. -/
def SeekAns (sss : List (List ByteArray)) (key : ByteArray) (a b : Nat) : Prop :=
  (∃ h : a < sss.length, b < sss[a].length ∧ pre sss a + b = below sss.flatten key) ∨ (a = sss.length ∧ b = 0 ∧ below sss.flatten key = sss.flatten.length)

def RetSeek (sss : List (List ByteArray)) (key : ByteArray) (w : World) (e : Ending) (w' : World) : Prop :=
  ∃ a b : Nat, e = .returned (.tuple #[.int .i64 a, .int .i64 b, .bool true]) ∧ SeekAns sss key a b ∧ Below w.heap.size w w'

theorem zzseek_any (kb : Nat) (sss : List (List ByteArray)) (key : ByteArray) (hl : sss.length ≤ 2000000) (hl2 : ∀ ss ∈ sss, ss.length ≤ 2000000) (hw : WF sss) (w : World) (hk : KView w kb sss) :
    Calls Try.prog 27 #[.pointer (some ⟨kb, 0, none⟩), .string key] w fun e w' => RetSeek sss key w e w' := by
  rcases Nat.eq_zero_or_pos sss.length with h0 | h0
  · have : sss = [] := List.eq_nil_of_length_eq_zero h0
    subst this
    exact (zzseek_of kb key 0 0 w (seek_nil kb key w hk)).mono fun e w' ⟨h1, h2⟩ => ⟨0, 0, h1, .inr ⟨rfl, rfl, rfl⟩, h2⟩
  · have hci := chunkIx_lt (key := key) hw h0
    refine (zzseek_of kb key _ _ w (seek_any kb sss key hl hl2 hw w hk h0 hci)).mono fun e w' ⟨h1, h2⟩ => ⟨_, _, h1, ?_, h2⟩
    exact seek_place hw hci

theorem flatPos_any (ao : Option Addr) (cap : Nat) (sss : List (List ByteArray)) (key : ByteArray) (a b : Nat) (hl : sss.length ≤ 2000000) (hf : sss.flatten.length ≤ 2000000) (w : World) (hs : RowsAt w ao sss) (h : SeekAns sss key a b) :
    Calls Try.prog 28 #[.slice ao sss.length cap, .int .i64 a, .int .i64 b] w fun e w' => e = .returned (.tuple #[.int .i64 (below sss.flatten key), .bool true]) ∧ w' = w := by
  rcases h with ⟨h1, h2, h3⟩ | ⟨rfl, rfl, h3⟩
  · rw [← h3]
    exact flatPos_in ao cap sss a b hl hf w hs h1 h2
  · rw [h3]
    exact flatPos_end ao cap sss hl hf w hs

/-- The slices that hold the rows rs. -/
def valsOf (rs : List Nat) (sss : List (List ByteArray)) : List SV := List.zipWith (fun r ss => (some ⟨r, 0, none⟩, ss.length, ss.length)) rs sss

theorem valsOf_length {rs : List Nat} {sss : List (List ByteArray)} (h : rs.length = sss.length) : (valsOf rs sss).length = sss.length := by simp [valsOf, h]
theorem valsOf_get {rs : List Nat} {sss : List (List ByteArray)} {j : Nat} (h1 : j < (valsOf rs sss).length) (h2 : j < rs.length) (h3 : j < sss.length) : (valsOf rs sss)[j] = (some ⟨rs[j], 0, none⟩, sss[j].length, sss[j].length) := by
  simp [valsOf]

theorem OwnRows.slicesAt {B : Nat} {w : World} {ao : Option Addr} {rs : List Nat} {sss : List (List ByteArray)} (h : OwnRows B w ao rs sss) : SlicesAt w ao (valsOf rs sss) := by
  obtain ⟨⟨hl, _, he⟩, h⟩ := h
  intro j hj
  have hj1 : j < sss.length := by rw [valsOf_length hl] at hj; exact hj
  rcases h with ⟨_, rfl⟩ | ⟨ob, _, rfl, hb⟩
  · simp at hj1
  · have hj2 : j < rs.length := by omega
    refine ⟨ob, 0, rfl, ?_⟩
    rw [hb.cell, Nat.zero_add, List.getElem?_toArray, valsOf_get hj hj2 hj1]
    simp [rowVals, List.getElem?_zipWith, hj1, hj2, sv]

/-- From the owned structure to what a reader sees. -/
theorem SK.kview {B B' : Nat} {w : World} {kb : Nat} {ps : List Nat} {rs : List Nat} {sss : List (List ByteArray)} {es : List Int} {ep : Int} {sh : Bool} (h : SK B w kb ps (valsOf rs sss) es ep sh) (hr : OwnEach B' w rs sss) : KView w kb sss := by
  obtain ⟨_, ⟨h1, h2, _, h4⟩, v, hkb, hown⟩ := h
  obtain ⟨r1, _, r3⟩ := hr
  rw [valsOf_length r1] at h1 h2
  obtain ⟨q1, hown⟩ := hown
  rcases hown with ⟨rfl, h0⟩ | ⟨g, cap, cur, rfl, _, hg, hc, _, hsz, htk⟩
  · have hz : sss.length = 0 := by omega
    exact ⟨none, 0, by rw [hkb.cell, hz]; rfl, fun j hj => by omega⟩
  · refine ⟨some ⟨g, 0, none⟩, cap, by rw [hkb.cell, ← h1]; rfl, fun j hj => ?_⟩
    have hjp : j < ps.length := by omega
    have hjr : j < rs.length := by omega
    have hjv : j < (valsOf rs sss).length := by rw [valsOf_length r1]; exact hj
    have hb := (h4 j hjv hjp (by omega)).2
    rw [valsOf_get hjv hjr hj] at hb
    refine ⟨g, 0, ps[j], some ⟨rs[j], 0, none⟩, sss[j].length, rfl, ?_, ?_, strs_of_blk (r3 j hj hjr).2⟩
    · rw [Nat.zero_add, World.cell?, hg]
      simp only [Option.isSome_none, Bool.false_eq_true, if_false]
      have : (cur.toList.take (ps.length * 1))[j]? = some (ptr ps[j]) := by rw [htk]; simp [hjp]
      rw [List.getElem?_take_of_lt (by omega)] at this
      simpa [ptr] using this
    · rw [hb.cell]; rfl

set_option maxHeartbeats 3200000 in
theorem law4 (ao : Option Addr) (cap : Nat) (sss : List (List ByteArray)) (eo : Option Addr) (ec : Nat) (es : List Int) (ep : Int) (sh : Bool) (key : ByteArray) (w : World) (hs : RowsAt w ao sss) (he : NumsAt w eo es) :
    Calls Try.prog 4 #[.slice ao sss.length cap, .slice eo es.length ec, .int .u64 ep, .bool sh, .string key] w fun e w' => e = .returned (.bool true) ∧ Below w.heap.size w w' := by
  have HS : Hid (RowsAt w ao sss) := hs
  have HE : Hid (NumsAt w eo es) := he
  clear hs he
  go_enter Try.func4, Try.ntmps4
  go_wp2_with fail
  refine (bytes_26 ao cap sss eo es.length ec ep sh key w HS.out).mono ?_
  rintro e w' ⟨⟨b, rfl, -⟩, hww⟩; subst w'
  cases b
  · go_wp2_with fail
    go_ret
    exact ⟨rfl, Below.refl _ _⟩
  go_wp2_with fail
  refine (sizeOK_any ao cap sss eo es.length ec key w HS.out).mono ?_
  rintro e w' ⟨⟨b, rfl, hsz⟩, hww⟩; subst w'
  cases b
  · go_wp2_with fail
    go_ret
    exact ⟨rfl, Below.refl _ _⟩
  have hsz := hsz rfl
  by_cases hlen : es.length = sss.length
  case neg =>
    have hd : ((es.length : Int) != (sss.length : Int)) = true := by rw [bne_iff_ne]; omega
    go_wp2_with fail
    go_ret
    exact ⟨rfl, Below.refl _ _⟩
  have hd : ((es.length : Int) != (sss.length : Int)) = false := by simp [hlen]
  have HLEN : Hid (es.length = sss.length) := hlen
  have hkey : key.size ≤ 1048576 := by omega
  have hl : sss.length ≤ 1048576 := by omega
  have hle : es.length ≤ 1048576 := by omega
  have hflat : sss.flatten.length ≤ 1048576 := by have := wtt_flat sss; omega
  have HB1 : Hid (∀ ss ∈ sss, ss.length ≤ 2000000) := fun ss h => by have := wtt_mem h; omega
  have HB2 : Hid (∀ ss ∈ sss, ∀ s ∈ ss, s.size ≤ 2000000) := fun ss h s hs => by have := wtt_mem h; have := wt_mem hs; omega
  obtain ⟨fl, hfl⟩ : ∃ fl, sss.flatten = fl := ⟨_, rfl⟩
  have HFL : Hid (sss.flatten = fl) := hfl
  have hfll : fl.length ≤ 1048576 := by rw [← hfl]; exact hflat
  have HB3 : Hid (∀ s ∈ fl, s.size ≤ 2000000) := fun s h => by
    rw [← hfl] at h
    obtain ⟨ss, h1, h2⟩ := List.mem_flatten.1 h
    exact HB2.out ss h1 s h2
  clear hlen hsz hfl
  go_wp2_with fail
  refine (wellFormed_any ao cap sss (by omega) HB2.out w HS.out).mono ?_
  rintro e w1 ⟨b, rfl, hwf, hw1⟩
  cases b
  · go_wp2_with fail
    go_ret
    exact ⟨rfl, hw1.below _⟩
  have HWF : Hid (WF sss) := hwf.1 rfl
  clear hwf
  clear hsz
  have b1 : Below w.heap.size w w1 := hw1.below _
  go_wp2_with fail
  refine (copyKeys_any ao cap sss (by omega) HB1.out HWF.out.ne w1 (HS.out.below b1)).mono ?_
  rintro e w2 ⟨ao1, cap1, rs1, rfl, hown1, hb1⟩
  have HR1 : Hid (RowsAt w2 ao1 sss) := hown1.rowsAt
  have b2 : Below w.heap.size w w2 := b1.trans (hb1.mono b1.size)
  clear hown1
  go_wp2_with fail
  refine (copyU64_any eo ec es (by omega) w2 (HE.out.below b2)).mono ?_
  rintro e w3 ⟨eo1, ec1, rfl, hnum1, hb2⟩
  have HN1 : Hid (NumsAt w3 eo1 es) := hnum1
  have b3 : Below w.heap.size w w3 := b2.trans (hb2.mono b2.size)
  have c3 : Below w2.heap.size w2 w3 := hb2
  clear hnum1
  go_wp2_with fail
  refine (flatten_any ao1 cap1 sss (by omega) (by omega) w3 (HR1.out.below c3)).mono ?_
  rintro e w4 ⟨fo, fcap, he4, hst, hb3⟩
  rw [HFL.out] at he4 hst
  subst he4
  have HF : Hid (StrsAt w4 fo fl) := hst
  have b4 : Below w.heap.size w w4 := b3.trans (hb3.mono b3.size)
  have c4 : Below w2.heap.size w2 w4 := c3.trans (hb3.mono c3.size)
  clear hst
  go_wp2_with fail
  refine (copyKeys_any ao1 cap1 sss (by omega) HB1.out HWF.out.ne w4 (HR1.out.below c4)).mono ?_
  rintro e w5 ⟨ao2, cap2, rs2, rfl, hown2, hb4⟩
  have HO2 : Hid (OwnRows w4.heap.size w5 ao2 rs2 sss) := hown2
  have hvl := valsOf_length hown2.1.1
  have HVL : Hid ((valsOf rs2 sss).length = sss.length) := hvl
  clear hown2 hvl
  have d5 : Below w3.heap.size w3 w5 := hb3.trans (hb4.mono hb3.size)
  go_wp2_with fail
  refine (copyU64_any eo1 ec1 es (by omega) w5 (HN1.out.below d5)).mono ?_
  rintro e w6 ⟨eo2, ec2, rfl, hnum2, hb5⟩
  have h15 := make_any ao2 cap2 (valsOf rs2 sss) eo2 ec2 es ep sh (by rw [HVL.out]; omega) (by rw [HVL.out]; exact HLEN.out) w6 (HO2.out.slicesAt.below hb5) hnum2
  rw [HVL.out] at h15
  have H15 : Hid _ := h15
  clear h15 hnum2
  go_wp2_with fail
  refine Calls.mono H15.out ?_
  rintro e w7 ⟨kb, ps, rfl, hsk, hb6⟩
  have f7 : Below w5.heap.size w5 w7 := hb5.trans (hb6.mono hb5.size)
  have HK : Hid (KView w7 kb sss) := hsk.kview (HO2.out.1.below f7 (Nat.le_refl _))
  have b7 : Below w.heap.size w w7 := (b4.trans (hb4.mono b4.size)).trans (f7.mono (by have := b4.size; have := hb4.size; omega))
  have c7 : Below w2.heap.size w2 w7 := (c4.trans (hb4.mono c4.size)).trans (f7.mono (by have := c4.size; have := hb4.size; omega))
  have g7 : Below w4.heap.size w4 w7 := hb4.trans (f7.mono hb4.size)
  clear hsk H15
  go_wp2_with fail
  refine (zzseek_any kb sss key (by omega) HB1.out HWF.out w7 HK.out).mono ?_
  rintro e w8 ⟨a1, i1, rfl, hans1, hb7⟩
  have HA1 : Hid (SeekAns sss key a1 i1) := hans1
  clear hans1
  have HK8 : Hid (KView w8 kb sss) := HK.out.still hb7
  go_wp2_with fail
  refine (zzseek_any kb sss (nulled key) (by omega) HB1.out HWF.out w8 HK8.out).mono ?_
  rintro e w9 ⟨a2, i2, rfl, hans2, hb8⟩
  have HA2 : Hid (SeekAns sss (nulled key) a2 i2) := hans2
  have f9 : Below w7.heap.size w7 w9 := hb7.trans (hb8.mono hb7.size)
  have b9 : Below w.heap.size w w9 := b7.trans (f9.mono b7.size)
  have c9 : Below w2.heap.size w2 w9 := c7.trans (f9.mono c7.size)
  have g9 : Below w4.heap.size w4 w9 := g7.trans (f9.mono g7.size)
  have HR9 : Hid (RowsAt w9 ao1 sss) := HR1.out.below c9
  have HF9 : Hid (StrsAt w9 fo fl) := HF.out.below g9
  clear hans2 hb1 hb2 hb3 hb4 hb5 hb6 hb7 hb8 d5 b1 b2 b3 b4 b7 c3 c4 c7 g7 f7 f9 HK HK8 HO2 HN1
  have p1 := flatPos_any ao1 cap1 sss key a1 i1 (by omega) (by omega) w9 HR9.out HA1.out
  have p2 := flatPos_any ao1 cap1 sss (nulled key) a2 i2 (by omega) (by omega) w9 HR9.out HA2.out
  have hbn := below_nulled (key := key) HWF.out.flat_asc
  rw [HFL.out] at p1 p2 hbn
  have hbl := below_le fl key
  have P1 : Hid _ := p1
  have P2 : Hid _ := p2
  have HBN : Hid (below fl (nulled key) = below fl key + if hasB fl key = true then 1 else 0) := hbn
  clear p1 p2 hbn
  cases hq : hasB fl key
  · have E2 : Hid (below fl (nulled key) = below fl key) := by have := HBN.out; rw [hq] at this; unfold Hid; simpa using this
    have HQ : Hid (hasB fl key = false) := hq
    clear hq
    go_wp2_with fail
    refine Calls.mono P1.out ?_
    rintro e w' ⟨rfl, hww⟩; subst w'
    go_wp2_with fail
    refine Calls.mono P2.out ?_
    rintro e w' ⟨rfl, hww⟩; subst w'
    rw [E2.out]
    go_wp2_with fail
    refine (countBelow_any fo fcap fl key (by omega) HB3.out (by omega) w9 HF9.out).mono ?_
    rintro e w10 ⟨rfl, hw10⟩
    have hs10 : Still w9 w10 := hw10
    clear hw10
    go_wp2_with fail
    refine (has_any fo fcap fl key (by omega) w10 (HF9.out.still hs10)).mono ?_
    rintro e w' ⟨rfl, hww⟩; subst w'
    rw [HQ.out]
    go_wp2_with fail
    go_ret
    exact ⟨rfl, b9.trans (hs10.below _)⟩
  · have E2 : Hid (below fl (nulled key) = below fl key + 1) := by have := HBN.out; rw [hq] at this; unfold Hid; simpa using this
    have HQ : Hid (hasB fl key = true) := hq
    clear hq
    go_wp2_with fail
    refine Calls.mono P1.out ?_
    rintro e w' ⟨rfl, hww⟩; subst w'
    go_wp2_with fail
    refine Calls.mono P2.out ?_
    rintro e w' ⟨rfl, hww⟩; subst w'
    rw [E2.out]
    go_wp2_with fail
    refine (countBelow_any fo fcap fl key (by omega) HB3.out (by omega) w9 HF9.out).mono ?_
    rintro e w10 ⟨rfl, hw10⟩
    have hs10 : Still w9 w10 := hw10
    clear hw10
    go_wp2_with fail
    refine (has_any fo fcap fl key (by omega) w10 (HF9.out.still hs10)).mono ?_
    rintro e w' ⟨rfl, hww⟩; subst w'
    rw [HQ.out]
    go_wp2_with fail
    go_ret
    exact ⟨rfl, b9.trans (hs10.below _)⟩
end Go.Proofs.Qxb6619794a
