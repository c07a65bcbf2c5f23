import Derived.Test.Qxb6619794aKins
namespace Go.Proofs.Qxb6619794a
open Go.RowKit

theorem insAt_vals (ss : List ByteArray) (key : ByteArray) : (ss.map Value.string).take (below ss key) ++ Value.string key :: (ss.map Value.string).drop (below ss key) = (insAt ss key).map Value.string := by
  simp [insAt, List.map_take, List.map_drop]
theorem insAt_length (ss : List ByteArray) (key : ByteArray) : (insAt ss key).length = ss.length + 1 := by
  have := below_le ss key
  simp [insAt]; omega

theorem others_set {es : List Int} {ep e : Int} {i : Nat} (hi : i < es.length) (h : e = es[i] ∨ e = ep) : others (es.set i e) ep ≤ others es ep := by
  rcases h with h | h
  · rw [h, List.set_getElem_self]; exact Nat.le_refl _
  · subst h
    unfold others
    induction es generalizing i with
    | nil => simp at hi
    | cons a l ih =>
      cases i with
      | zero =>
        rw [List.set_cons_zero]
        simp only [List.filter_cons]
        simp
        split
        · simp
        · simp
      | succ i =>
        rw [List.set_cons_succ]
        have := ih (by simpa using hi)
        simp only [List.filter_cons]
        split <;> simp <;> omega

/-- A shared chunk's row is not the row that own hands out. -/
theorem shared_ne {B : Nat} {kb : Nat} {cs : List Ch} {ci : Nat} {c' : Ch} {ep : Int} {sh : Bool} {w : World} (hk : KAt B w kb cs ep sh) (hci : ci < cs.length) (ho : OwnOut w cs[ci] c' ep sh) (hs : sh = true) {c : Ch} (hc : c ∈ cs) (he : c.e ≠ ep) : c.r ≠ c'.r := by
  obtain ⟨k1, k2, k3, k4, _⟩ := hk
  obtain ⟨_, h1, h2⟩ := ho
  rcases h2 with h2 | ⟨_, _, h2, _⟩
  · have he' := h1 hs
    rw [h2] at he' ⊢
    obtain ⟨j, hj, rfl⟩ := List.mem_iff_getElem.1 hc
    intro e
    have := (List.getElem_inj (h₀ := by simpa using hj) (h₁ := by simpa using hci) k4).1 (by simpa using e)
    subst this
    exact he he'
  · have := (k2 c hc).2.2.2.lt; omega

theorem own_others {cs : List Ch} {ci : Nat} {c' : Ch} {ep : Int} {sh : Bool} {w : World} (hci : ci < cs.length) (ho : OwnOut w cs[ci] c' ep sh) : c'.e = (cs.map Ch.e)[ci]'(by simpa using hci) ∨ c'.e = ep := by
  obtain ⟨_, h1, h2⟩ := ho
  rcases h2 with h2 | ⟨h2, _⟩
  · left; rw [h2]; simp
  · exact .inr (h1 h2)

set_option maxHeartbeats 2000000 in
set_option maxRecDepth 100000 in
theorem insert_small (B kb : Nat) (cs : List Ch) (key : ByteArray) (ep : Int) (sh : Bool) (w : World) (hk : KAt B w kb cs ep sh) (hwf : WF (cs.map Ch.ss)) (hne : 0 < cs.length) (hl : cs.length ≤ 2000000)
    (ci : Nat) (hcx : chunkIx (cs.map Ch.ss) key = ci) (hci : ci < cs.length) (hsm : cs[ci].ss.length + 1 ≤ 512) :
    Calls Try.prog 41 #[.pointer (some ⟨kb, 0, none⟩), .string key] w fun e w' => RetK B kb cs ((cs.map Ch.ss).set ci (insAt cs[ci].ss key)) ep sh w e w' := by
  have HK : Hid (KAt B w kb cs ep sh) := hk
  have HWF : Hid (WF (cs.map Ch.ss)) := hwf
  have HCX : Hid (chunkIx (cs.map Ch.ss) key = ci) := hcx
  obtain ⟨cb0, ccap0, hB0, hg0, hkb0⟩ := hk.arr hne
  have hc1 : w.cell? ⟨kb, 0, none⟩ = some (.slice (some ⟨cb0, 0, none⟩) cs.length ccap0) := by rw [hkb0.cell]; rfl
  have hn0 : ((cs.length : Int) == 0) = false := by rw [beq_eq_false_iff_ne]; omega
  have hok := hwf ci (by simpa using hci)
  have hpos : 0 < cs[ci].ss.length := by simpa using hok.1
  have HASC : Hid (Asc cs[ci].ss) := by have := hok.2.2.1; unfold Hid; simpa using this
  clear hk hwf hcx hg0 hkb0 hok
  go_enter Try.func41, Try.ntmps41
  go_wp2_with fail
  refine (chunkOf_any kb (cs.map Ch.ss) key (by simpa using hl) HWF.out w HK.out.kview).mono ?_
  rintro e w' ⟨rfl, hww⟩; subst w'
  rw [HCX.out]
  go_wp2_with fail
  refine (own_any B kb cs ci ep sh w HK.out hci hl hpos (by omega)).mono ?_
  rintro e w2 ⟨c, rfl, hout, hk2, hpass, hb2⟩
  have HOUT : Hid (OwnOut w cs[ci] c ep sh) := hout
  have HK2 : Hid (KAt B w2 kb (cs.set ci c) ep sh) := hk2
  have HPASS : Hid (∀ b C t, t ≠ 57 → Blk w b C t → Blk w2 b C t) := hpass
  have hcss : c.ss = cs[ci].ss := hout.1
  have HCSS : Hid (c.ss = cs[ci].ss) := hcss
  have hcl : c.ss.length + 1 ≤ 512 := by rw [hcss]; exact hsm
  have hch : ChAt B w2 c := by
    have := hk2.2.1 ((cs.set ci c)[ci]'(by simpa using hci)) (List.getElem_mem _)
    rwa [List.getElem_set_self] at this
  have HCH : Hid (ChAt B w2 c) := hch
  have HA2 : Hid (Asc c.ss) := by have := HASC.out; unfold Hid; rw [hcss]; exact this
  clear hout hk2 hpass hcss hch
  go_wp2_with fail
  refine (bin43 (some ⟨c.r, 0, none⟩) c.cap c.ss key (by omega) HA2.out w2 HCH.out.2.2.2.strs).mono ?_
  rintro e w' ⟨rfl, hww⟩; subst w'
  have hbl := below_le c.ss key
  have hw3l : c.r < w2.heap.size := HCH.out.2.2.2.lt
  go_wp2_with fail
  refine (ins47 c.r c.cap (below c.ss key) w2.heap.size c.ss.length (c.ss.map Value.string) (.string key) (by simp) hbl (by omega) _ (HCH.out.2.2.2.grow.imp fun C hC => hC.alloc _) (Blk.new w2 _ _) (by omega) (fun u hu => by simp at hu; obtain ⟨x, _, rfl⟩ := hu; rfl) rfl).mono ?_
  rintro e w4 ⟨r4, cap4, rfl, hg4, hr4, hgr4⟩
  rw [insAt_vals] at hg4
  have HROW : Hid (RowAt w4 r4 cap4 (insAt c.ss key)) := hg4.row rfl
  have HR4 : Hid (r4 = c.r ∨ (w2.alloc (.cells #[.string key] 9)).heap.size ≤ r4) := hr4
  have HGR4 : Hid ((w2.alloc (.cells #[.string key] 9)).grownBy w4 (some c.r)) := hgr4
  have HK3 : Hid (KAt B (w2.alloc (.cells #[.string key] 9)) kb (cs.set ci c) ep sh) := HK2.out.imp fun _ _ _ hb => hb.alloc _
  clear hg4 hr4 hgr4
  obtain ⟨cb, ccap, hBc, hgc, hkbc⟩ := HK3.out.arr (by simpa using hne)
  obtain ⟨cur, hcur, _⟩ := HCH.out.2.2.2
  have hcur3 : Blk (w2.alloc (.cells #[.string key] 9)) c.r cur 9 := hcur.alloc _
  have pass4 : ∀ b C t, t ≠ 9 → Blk (w2.alloc (.cells #[.string key] 9)) b C t → Blk w4 b C t := fun b C t ht hb => hb.grown HGR4.out (by intro e; injection e with e; exact hcur3.type_ne hb (Ne.symm ht) e)
  have hd1 : w4.cell? ⟨kb, 0, none⟩ = some (.slice (some ⟨cb, 0, none⟩) cs.length ccap) := by
    have := (pass4 _ _ _ (by decide) hkbc).cell 0
    rw [List.length_set] at this
    exact this
  have hd4 : w4.cell? ⟨cb, ci, none⟩ = some (.pointer (some ⟨c.p, 0, none⟩)) := by
    have h1 : GRow w4 cb ccap 57 (cptrs (cs.set ci c)) := hgc.imp fun C hC => pass4 _ _ _ (by decide) hC
    rw [h1.cell (by rw [cptrs_length, List.length_set]; exact hci), cptrs_get (by rw [List.length_set]; exact hci), List.getElem_set_self]
  have hp4 : Blk w4 c.p (chVals c) 59 := pass4 _ _ _ (by decide) (HCH.out.2.2.1.alloc _)
  have hd5 : w4.cell? ⟨c.p, 0, none⟩ = some (.slice (some ⟨c.r, 0, none⟩) c.ss.length c.cap) := by rw [hp4.cell]; rfl
  have hdf : w4.frozen? ⟨c.p, 0, none⟩ = false := hp4.free 0
  have hx1 : (ci : Int) < (cs.length : Int) := by omega
  have hle : decide ((c.ss.length : Int) + 1 ≤ 512) = true := by rw [decide_eq_true_eq]; omega
  clear hgc hkbc hcur hcur3 pass4 hp4
  go_wp2_with fail
  go_end0
  have hlen : (insAt c.ss key).length = c.ss.length + 1 := insAt_length _ _
  have hset : (cs.set ci c)[ci]'(by simpa using hci) = c := List.getElem_set_self _
  have hst := row_step (r' := r4) (cap' := cap4) (ss' := insAt c.ss key) (w' := w4) HK3.out (ci := ci) (by simpa using hci) (by rw [hset]; exact HGR4.out) (by rw [hset]; exact HR4.out) HROW.out
  rw [hset, hlen, List.set_set] at hst
  obtain ⟨hkF, hfr, hp9⟩ := hst
  have hfr2 : KFrame B w w2 := ⟨hb2, fun b C t _ _ h7 _ hb => HPASS.out b C t h7 hb⟩
  have hBw2 : B ≤ w2.heap.size := by have := HCH.out.2.1; omega
  refine ⟨rfl, _, hkF, ?_, ?_, (hfr2.trans (KFrame.of_below ((Below.refl _ w2).alloc (Nat.le_refl _) _) hBw2)).trans hfr, ?_⟩
  · rw [List.map_set, HCSS.out]
  · rw [List.map_set]
    have ho := own_others hci HOUT.out
    exact others_set (e := c.e) (by simpa using hci) ho
  · intro hs d hd he C hC
    exact hp9 _ C (shared_ne HK.out hci HOUT.out hs hd he) ((HPASS.out _ _ _ (by decide) hC).alloc _)
end Go.Proofs.Qxb6619794a
